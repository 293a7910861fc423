/-
  THE WALKS OF package sort's stable sort over an interface value whose Less and Swap have contracts: insertionSort, swapRange, rotate.
-/
import Derived.Test.YouahwSortFns2
import Derived.Test.YouahwRows
import Derived.Test.YouahwRow
import Derived.WalkSpells
import Derived.WalkLawsBesides
namespace Go.Proofs.Youahw
open Go.RowKit

/-- w' is w but for block b and new blocks. -/
structure Only (b : Nat) (w w' : World) : Prop where
  os : w'.os = w.os
  tape : w'.tape = w.tape
  output : w'.output = w.output
  size : w.heap.size ≤ w'.heap.size
  block : ∀ k, k < w.heap.size → k ≠ b → w'.heap[k]? = w.heap[k]?

theorem Only.refl (b : Nat) (w : World) : Only b w w := ⟨rfl, rfl, rfl, Nat.le_refl _, fun _ _ _ => rfl⟩
theorem Only.trans {b : Nat} {u v w : World} (h : Only b u v) (k : Only b v w) : Only b u w :=
  ⟨k.os.trans h.os, k.tape.trans h.tape, k.output.trans h.output, Nat.le_trans h.size k.size, fun i hi hb => (k.block i (Nat.lt_of_lt_of_le hi h.size) hb).trans (h.block i hi hb)⟩
theorem Only.of_below {b : Nat} {w w' : World} (h : Below w.heap.size w w') : Only b w w' := ⟨h.os, h.tape, h.output, h.size, fun k hk _ => h.block k hk⟩
theorem Only.drew {b : Nat} {w w' : World} (h : Only b w w') : Only b w w'.drew := ⟨h.os, h.tape, h.output, h.size, h.block⟩
theorem Only.setCell {b : Nat} {w w' : World} (h : Only b w w') (o : Nat) (v : Value) : Only b w (w'.setCell ⟨b, o, none⟩ v) :=
  h.trans ⟨rfl, rfl, rfl, by simp, fun k _ hb => Below.heap_setCell _ _ _ _ hb⟩
theorem Below.only {B b : Nat} {u w w' : World} (h : Below B u w) (k : Only b w w') (hB : B ≤ w.heap.size) (hb : B ≤ b) : Below B u w' :=
  h.trans ⟨k.os, k.tape, k.output, k.size, fun i hi => k.block i (by omega) (by omega)⟩
theorem Row.only {b c n : Nat} {w w' : World} {g : Nat → Value} (h : Row w c n g) (k : Only b w w') (hc : c ≠ b) : Row w' c n g := by
  have hb := k.block c h.lt hc
  exact ⟨by have := h.lt; have := k.size; omega, fun t ht => by rw [World.cell?_of_block (w := w) hb]; exact h.cell t ht, fun t => by rw [World.frozen?_of_block (w := w) hb]; exact h.free t⟩

/-- The state while the array in block b is sorted: it holds d; nothing else that was there has turned since w. -/
structure St {α : Type} (enc : α → Value) (b n : Nat) (w : World) (d : Nat → α) (w' : World) : Prop where
  row : Row w' b n fun t => enc (d t)
  only : Only b w w'

theorem St.below {α : Type} {enc : α → Value} {b n : Nat} {w w1 w2 : World} {d : Nat → α} (h : St enc b n w d w1) (k : Below w1.heap.size w1 w2) : St enc b n w d w2 :=
  ⟨h.row.below k h.row.lt, h.only.trans (Only.of_below k)⟩
theorem St.step {α : Type} {enc : α → Value} {b n : Nat} {w w1 w2 : World} {d d' : Nat → α} (h : St enc b n w d w1) (k : St enc b n w1 d' w2) : St enc b n w d' w2 :=
  ⟨k.row, h.only.trans k.only⟩
theorem St.congr {α : Type} {enc : α → Value} {b n : Nat} {w w1 : World} {d d' : Nat → α} (h : St enc b n w d w1) (e : ∀ t, t < n → d t = d' t) : St enc b n w d' w1 :=
  ⟨h.row.congr fun t ht => by rw [e t ht], h.only⟩

/-- What is asked of the interface value '.iface T rv': how Less and Swap are reached, and what they do. -/
structure Meth {α : Type} (enc : α → Value) (lt : α → α → Bool) (T : TypeId) (rv : Value) (gl gs b n : Nat) : Prop where
  ord : Ord lt
  findL : ∀ w, (method 190 T rv "Less").run Uahg.prog w = .ok (gl, rv) w
  findS : ∀ w, (method 190 T rv "Swap").run Uahg.prog w = .ok (gs, rv) w
  entL : ∀ args w, (callFunc gl args).run Uahg.prog w = .ok (.enter gl args) w
  entS : ∀ args w, (callFunc gs args).run Uahg.prog w = .ok (.enter gs args) w
  less : ∀ (d : Nat → α) (w0 W : World) (i j : Nat) (I J : Int), St enc b n w0 d W → I = i → J = j → i < n → j < n →
    Calls Uahg.prog gl #[rv, .int .i64 I, .int .i64 J] W fun e w' => e = .returned (.bool (lt (d i) (d j))) ∧ Below W.heap.size W w'
  swap : ∀ (d : Nat → α) (w0 W : World) (i j : Nat) (I J : Int), St enc b n w0 d W → I = i → J = j → i < n → j < n →
    Calls Uahg.prog gs #[rv, .int .i64 I, .int .i64 J] W fun e w' => e = .returned (.tuple #[]) ∧ St enc b n w0 (swp d i j) w'

/-- A run that ends with the array turned to some d' of which R holds. -/
def Sorts {α : Type} (enc : α → Value) (b n : Nat) (w : World) (R : (Nat → α) → Prop) (e : Ending) (w' : World) : Prop := e = .returned (.tuple #[]) ∧ ∃ d', St enc b n w d' w' ∧ R d'

set_option maxHeartbeats 400000 in
theorem swapRange43 {α : Type} {enc : α → Value} {lt : α → α → Bool} {T : TypeId} {rv : Value} {gl gs b n : Nat} (M : Meth enc lt T rv gl gs b n) (d : Nat → α) (x y k : Nat) (X Y K : Int) (w : World) (hX : X = x) (hY : Y = y) (hK : K = k)
    (hx : x + k ≤ n) (hy : y + k ≤ n) (hn : n ≤ 1048576) (hS : Row w b n fun t => enc (d t)) :
    Calls Uahg.prog 43 #[.iface T rv, .int .i64 X, .int .i64 Y, .int .i64 K] w fun e w' => e = .returned (.tuple #[]) ∧ St enc b n w (srf d x y k) w' := by
  subst hX hY hK
  have mS := M.findS
  have eS := M.entS
  go_enter Uahg.func43, Uahg.ntmps43
  go_wp2_with fail
  go_loopw [8] (fun i wr => ∃ j : Nat, j ≤ k ∧ i = .int .i64 j ∧ St enc b n w (srf d x y j) wr) (fun i _ => k - (intOf i).toNat)
  case atStart => exact ⟨0, by omega, rfl, hS, Only.refl _ _⟩
  case round =>
    obtain ⟨j, hj, rfl, hSt⟩ := hrel
    by_cases hlt : j < k
    · go_wp2_with fail
      refine (M.swap _ w wr (x + j) (y + j) _ _ hSt (by simp) (by simp) (by omega) (by omega)).mono ?_
      rintro e w2 ⟨rfl, hSt2⟩
      have HS : Hid (St enc b n w (srf d x y (j + 1)) w2) := hSt2
      clear hSt hSt2
      go_wp2
      go_roundw
      case rel => exact ⟨j + 1, by omega, by go_num, HS.out⟩
      case measure => simp [intOf]; omega
    · have hjk : j = k := by omega
      subst hjk
      go_wp2
      go_end0
      exact ⟨rfl, hSt⟩

set_option maxHeartbeats 400000 in
theorem rotate40 {α : Type} {enc : α → Value} {lt : α → α → Bool} {T : TypeId} {rv : Value} {gl gs b n : Nat} (M : Meth enc lt T rv gl gs b n) (d : Nat → α) (a m c : Nat) (A M' C : Int) (w : World) (hA : A = a) (hM' : M' = m) (hC : C = c)
    (ha : a < m) (hm : m < c) (hc : c ≤ n) (hn : n ≤ 1048576) (hS : Row w b n fun t => enc (d t)) :
    Calls Uahg.prog 40 #[.iface T rv, .int .i64 A, .int .i64 M', .int .i64 C] w fun e w' => Sorts enc b n w (fun d' => Mix a c n d d' ∧ ∀ t, d' t = rot d a m c t) e w' := by
  subst hA hM' hC
  go_enter Uahg.func40, Uahg.ntmps40
  go_wp2_with fail
  go_loopw [8, 9] (fun vi vj wr => ∃ (i j : Nat) (e : Nat → α), 0 < i ∧ 0 < j ∧ i ≤ m - a ∧ j ≤ c - m ∧ vi = .int .i64 i ∧ vj = .int .i64 j ∧ St enc b n w e wr ∧ Mix a c n d e ∧ ∀ t, rot e (m - i) m (m + j) t = rot d a m c t) (fun vi vj _ => (intOf vi).toNat + (intOf vj).toNat)
  case atStart => exact ⟨m - a, c - m, d, by omega, by omega, by omega, by omega, by go_num, by go_num, ⟨hS, Only.refl _ _⟩, Mix.refl _ _ _ _, fun t => by rw [show m - (m - a) = a by omega, show m + (c - m) = c by omega]⟩
  case round =>
    obtain ⟨i, j, e, hi0, hj0, hi, hj, rfl, rfl, hSt, hMx, hRt⟩ := hrel
    have HH : Hid (Mix a c n d e ∧ ∀ t, rot e (m - i) m (m + j) t = rot d a m c t) := ⟨hMx, hRt⟩
    clear hMx hRt
    by_cases hij : i = j
    · subst hij
      have hb : ((i : Int) != (i : Int)) = false := by simp
      go_wp2_with fail
      refine (swapRange43 M e (m - i) m i _ _ _ wr (by omega) rfl rfl (by omega) (by omega) hn hSt.row).mono ?_
      rintro e' w2 ⟨rfl, hSt2⟩
      have HE : Hid (Sorts enc b n w (fun d' => Mix a c n d d' ∧ ∀ t, d' t = rot d a m c t) (.returned (.tuple #[])) w2) :=
        ⟨rfl, _, hSt.step hSt2, HH.out.1.trans (srf_mix e i (by omega) (by omega) (by omega) (by omega) hc), fun t => by rw [rot_last e m i (by omega)]; exact HH.out.2 t⟩
      clear hSt hSt2 HH
      go_wp2
      go_end0
      exact HE.out
    · have hb : ((i : Int) != (j : Int)) = true := by rw [bne_iff_ne]; omega
      by_cases hlt : j < i
      · go_wp2_with fail
        refine (swapRange43 M e (m - i) m j _ _ _ wr (by omega) rfl rfl (by omega) (by omega) hn hSt.row).mono ?_
        rintro e' w2 ⟨rfl, hSt2⟩
        have HE : Hid (St enc b n w (srf e (m - i) m j) w2 ∧ Mix a c n d (srf e (m - i) m j) ∧ ∀ t, rot (srf e (m - i) m j) (m - (i - j)) m (m + j) t = rot d a m c t) :=
          ⟨hSt.step hSt2, HH.out.1.trans (srf_mix e j (by omega) (by omega) (by omega) (by omega) hc), fun t => by rw [rot_left e m i j (by omega) hlt]; exact HH.out.2 t⟩
        clear hSt hSt2 HH
        go_wp2
        go_roundw
        case rel => exact ⟨i - j, j, _, by omega, hj0, by omega, hj, by go_num, rfl, HE.out.1, HE.out.2.1, HE.out.2.2⟩
        case measure => simp [intOf]; omega
      · go_wp2_with fail
        refine (swapRange43 M e (m - i) (m + j - i) i _ _ _ wr (by omega) (by omega) rfl (by omega) (by omega) hn hSt.row).mono ?_
        rintro e' w2 ⟨rfl, hSt2⟩
        have HE : Hid (St enc b n w (srf e (m - i) (m + j - i) i) w2 ∧ Mix a c n d (srf e (m - i) (m + j - i) i) ∧ ∀ t, rot (srf e (m - i) (m + j - i) i) (m - i) m (m + (j - i)) t = rot d a m c t) :=
          ⟨hSt.step hSt2, HH.out.1.trans (srf_mix e i (by omega) (by omega) (by omega) (by omega) hc), fun t => by rw [rot_right e m i j (by omega) (by omega)]; exact HH.out.2 t⟩
        clear hSt hSt2 HH
        go_wp2
        go_roundw
        case rel => exact ⟨i, j - i, _, hi0, by omega, hi, by omega, rfl, by go_num, HE.out.1, HE.out.2.1, HE.out.2.2⟩
        case measure => simp [intOf]; omega

set_option maxHeartbeats 400000 in
theorem insertion36 {α : Type} {enc : α → Value} {lt : α → α → Bool} {T : TypeId} {rv : Value} {gl gs b n : Nat} (M : Meth enc lt T rv gl gs b n) (d : Nat → α) (a c : Nat) (A C : Int) (w : World) (hA : A = a) (hC : C = c)
    (ha : a ≤ c) (hc : c ≤ n) (hn : n ≤ 1048576) (hS : Row w b n fun t => enc (d t)) :
    Calls Uahg.prog 36 #[.iface T rv, .int .i64 A, .int .i64 C] w fun e w' => Sorts enc b n w (fun d' => Mix a c n d d' ∧ Sorted lt a c d') e w' := by
  subst hA hC
  have mS := M.findS
  have eS := M.entS
  have mL := M.findL
  have eL := M.entL
  go_enter Uahg.func36, Uahg.ntmps36
  go_wp2_with fail
  go_loopw [6] (fun vi wr => ∃ (i : Nat) (e : Nat → α), a < i ∧ i ≤ c + 1 ∧ vi = .int .i64 i ∧ St enc b n w e wr ∧ Mix a c n d e ∧ Sorted lt a (min i c) e) (fun vi _ => c + 1 - (intOf vi).toNat)
  case atStart => exact ⟨a + 1, d, by omega, by omega, by go_num, ⟨hS, Only.refl _ _⟩, Mix.refl _ _ _ _, sorted_short (by omega)⟩
  case round =>
    obtain ⟨i, e, hai, hic, rfl, hSt, hMx, hSo⟩ := hrel
    by_cases hlt : i < c
    · rw [Nat.min_eq_left (by omega)] at hSo
      have HH : Hid (St enc b n w e wr ∧ Mix a c n d e ∧ Hole lt a (i + 1) i e) := ⟨hSt, hMx, hole_start hSo⟩
      clear hSt hMx hSo
      go_wp2_with fail
      go_loopw [7] (fun vj wr => ∃ (j : Nat) (f : Nat → α), a ≤ j ∧ j ≤ i ∧ vj = .int .i64 j ∧ St enc b n w f wr ∧ Mix a c n d f ∧ Hole lt a (i + 1) j f) (fun vj _ => (intOf vj).toNat)
      case atStart => exact ⟨i, e, by omega, by omega, rfl, HH.out⟩
      case round =>
        obtain ⟨j, f, haj, hji, rfl, hSt, hMx, hHo⟩ := hrel
        have HM : Hid (Mix a c n d f ∧ Hole lt a (i + 1) j f) := ⟨hMx, hHo⟩
        clear hMx hHo HH
        by_cases hja : a < j
        · have hg : (a : Int) < j := by omega
          go_wp2_with fail
          refine (M.less f w wr j (j - 1) _ _ hSt rfl (by omega) (by omega) (by omega)).mono ?_
          rintro e' w2 ⟨rfl, hB2⟩
          have hSt2 := hSt.below hB2
          clear hSt hB2
          cases hv : lt (f j) (f (j - 1)) with
          | true =>
            have HV : Hid (Mix a c n d (swp f j (j - 1)) ∧ Hole lt a (i + 1) (j - 1) (swp f j (j - 1))) := ⟨HM.out.1.swp ⟨by omega, by omega⟩ ⟨by omega, by omega⟩ hc, hole_step M.ord HM.out.2 hja (by omega) hv⟩
            clear hv HM
            go_wp2_with fail
            refine (M.swap f w w2 j (j - 1) _ _ hSt2 rfl (by omega) (by omega) (by omega)).mono ?_
            rintro e' w3 ⟨rfl, hSt3⟩
            have HS : Hid (St enc b n w (swp f j (j - 1)) w3) := hSt3
            clear hSt2 hSt3
            go_wp2
            go_roundw
            case rel => exact ⟨j - 1, _, by omega, by omega, by go_num, HS.out, HV.out.1, HV.out.2⟩
            case measure => simp [intOf]; omega
          | false =>
            have HV : Hid (Mix a c n d f ∧ Sorted lt a (min (i + 1) c) f) := ⟨HM.out.1, by rw [Nat.min_eq_left (by omega)]; exact hole_end M.ord HM.out.2 (.inr hv)⟩
            have HS : Hid (St enc b n w f w2) := hSt2
            clear hv HM hSt2
            go_wp2
            go_roundw
            case rel => exact ⟨i + 1, f, by omega, by omega, by go_num, HS.out, HV.out.1, HV.out.2⟩
            case measure => simp [intOf]; omega
        · have HV : Hid (Mix a c n d f ∧ Sorted lt a (min (i + 1) c) f) := ⟨HM.out.1, by rw [Nat.min_eq_left (by omega)]; exact hole_end M.ord HM.out.2 (.inl (by omega))⟩
          have HS : Hid (St enc b n w f wr) := hSt
          have hg : decide ((a : Int) < j) = false := decide_eq_false (by omega)
          clear HM hSt
          go_wp2
          go_roundw
          case rel => exact ⟨i + 1, f, by omega, by omega, by go_num, HS.out, HV.out.1, HV.out.2⟩
          case measure => simp [intOf]; omega
    · rw [Nat.min_eq_right (by omega)] at hSo
      have HE : Hid (Sorts enc b n w (fun d' => Mix a c n d d' ∧ Sorted lt a c d') (.returned (.tuple #[])) wr) := ⟨rfl, e, hSt, hMx, hSo⟩
      clear hSt hMx hSo
      go_wp2
      go_end0
      exact HE.out
end Go.Proofs.Youahw
