/-
  THE WALKS OF THE REVERSE.
-/
import Derived.Test.YouahwRows
import Derived.Test.YouahwRow
import Derived.Test.YouahwRunes
import Derived.Test.YouahwAssert
import Derived.WalkSpells
import Derived.WalkLawsBesides
import Derived.BigRegion
import Derived.RegionTactic
namespace Go.Proofs.Youahw
open Go.RowKit

set_option maxHeartbeats 400000 in
theorem bytes20_yes (s : ByteArray) (w : World) (hs : s.size ≤ 1048576) :
    Calls Uahg.prog 20 #[.string s] w fun e w' => e = .returned (.bool true) ∧ w = w' := by
  go_enter Uahg.func20, Uahg.ntmps20
  go_wp2
  go_ret
  exact ⟨rfl, rfl⟩

set_option maxHeartbeats 400000 in
theorem bytes20_no (s : ByteArray) (w : World) (hs : 1048576 < s.size) :
    Calls Uahg.prog 20 #[.string s] w fun e w' => e = .returned (.bool false) ∧ w = w' := by
  go_enter Uahg.func20, Uahg.ntmps20
  go_wp2
  go_ret
  exact ⟨rfl, rfl⟩

/-- '[]rune(s)': a new row with the code points. -/
theorem runes_conv (s : ByteArray) (hs : s.size ≤ 4194304) (w : World) : ∃ cp C, (convert 9 36 (.string s)).run Uahg.prog w = .ok (.slice (some ⟨w.heap.size, 0, none⟩) (runes s).length cp) (w.drew.alloc (.cells C 21))
    ∧ ∀ t, t < (runes s).length → C[t]? = some (.int .i32 ((runes s).getD t 0)) := by
  have hlen := runes_len s
  have hcv := run_runes_of_string (P := Uahg.prog) w 9 36 21 s Uahg.underlying9 Uahg.underlying36 Uahg.underlying21 (by rw [runesFrom_runes]; simp; omega)
  rw [runesFrom_runes] at hcv
  simp only [List.size_toArray, List.length_map] at hcv
  refine ⟨_, _, hcv, fun t ht => ?_⟩
  rw [Array.getElem?_append_left (by simpa using ht)]
  simp [List.getD, ht]

/-- The row of the code points behind k exchanges. -/
def swapTo (L : List Int) (k t : Nat) : Int := if t < k ∨ L.length ≤ t + k then L.getD (L.length - 1 - t) 0 else L.getD t 0

theorem swapTo_zero (L : List Int) (t : Nat) (ht : t < L.length) : swapTo L 0 t = L.getD t 0 := by
  unfold swapTo; rw [if_neg (by omega)]

theorem swapTo_all (L : List Int) (k t : Nat) (hk : L.length / 2 ≤ k) (ht : t < L.length) : swapTo L k t = L.reverse.getD t 0 := by
  have e : L.reverse.getD t 0 = L.getD (L.length - 1 - t) 0 := by simp only [List.getD]; rw [List.getElem?_reverse ht]
  unfold swapTo
  rw [e]
  split
  · rfl
  · have : L.length - 1 - t = t := by omega
    rw [this]

theorem swapTo_step (L : List Int) (k m t : Nat) (hk : 2 * k + 2 ≤ L.length) (hm : k + m + 1 = L.length) :
    (if t = m then swapTo L k k else if t = k then swapTo L k m else swapTo L k t) = swapTo L (k + 1) t := by
  have h1 : swapTo L k k = L.getD k 0 := by unfold swapTo; rw [if_neg (by omega)]
  have h2 : swapTo L k m = L.getD m 0 := by unfold swapTo; rw [if_neg (by omega)]
  rw [h1, h2]
  unfold swapTo
  by_cases e1 : t = m
  · subst e1; rw [if_pos rfl, if_pos (by omega)]; congr 1; omega
  · rw [if_neg e1]
    by_cases e2 : t = k
    · subst e2; rw [if_pos rfl, if_pos (by omega)]; congr 1; omega
    · rw [if_neg e2]
      by_cases c : t < k ∨ L.length ≤ t + k
      · rw [if_pos c, if_pos (by omega)]
      · rw [if_neg c, if_neg (by omega)]

set_option maxHeartbeats 400000 in
theorem rev27_str (s : ByteArray) (ba ca : Nat) (w : World) (hs : s.size ≤ 1048576) (hc : w.cell? ⟨ba, 0, none⟩ = some (.iface 9 (.string s))) :
    Calls Uahg.prog 27 #[.slice (some ⟨ba, 0, none⟩) 1 ca] w fun e w' => e = .returned (.tuple #[.iface 9 (.string (runesBytes (runes s).reverse)), .nilIface]) ∧ Below w.heap.size w w' := by
  have hlen := runes_len s
  obtain ⟨cp, C, hcv, hC⟩ := runes_conv s (by omega) w
  have hrow : Hid (Row (w.drew.alloc (.cells C 21)) w.heap.size (runes s).length fun t => .int .i32 (swapTo (runes s) 0 t)) := Row.new w.drew C 21 _ _ (fun t ht => by rw [hC t ht, swapTo_zero _ _ ht])
  clear hC
  have ha := as_str2 s
  generalize runes s = L at *
  go_enter Uahg.func27, Uahg.ntmps27
  go_wp2_with fail
  go_loopw [7, 8] (fun i j wr => ∃ k : Nat, 2 * k ≤ L.length ∧ i = .int .i64 k ∧ j = .int .i64 ((L.length : Int) - 1 - k) ∧ Row wr w.heap.size L.length (fun t => .int .i32 (swapTo L k t)) ∧ Below w.heap.size w wr) (fun i _ _ => L.length - (intOf i).toNat)
  case atStart => exact ⟨0, by omega, rfl, by simp, hrow.out, by exact ((Below.refl _ _).alloc (Nat.le_refl _) _).drew⟩
  case round =>
    obtain ⟨k, hk, rfl, rfl, hR, hB⟩ := hrel
    by_cases hlt : 2 * k + 2 ≤ L.length
    · obtain ⟨m, hm, hm2⟩ : ∃ m : Nat, (L.length : Int) - 1 - k = m ∧ k + m + 1 = L.length := ⟨L.length - 1 - k, by omega, by omega⟩
      rw [hm]
      have HM : Hid (k + m + 1 = L.length) := hm2
      have c1 := hR.cell k (by omega)
      have c2 := hR.cell m (by omega)
      have f1 := hR.free k
      have f2 := hR.free m
      have b1 : k < m := by omega
      have b2 : m < L.length := by omega
      have c3 : (wr.setCell ⟨w.heap.size, k, none⟩ (.int .i32 (swapTo L k m))).cell? ⟨w.heap.size, m, none⟩ = some (.int .i32 (swapTo L k m)) := by
        rw [World.cell?_setCell_other _ _ _ _ (by intro e; injection e with _ e2; omega)]; exact c2
      clear hm hm2 hc hcv ha hrow
      go_wp2_with fail
      go_region
      have R := (hR.set k (by omega) (.int .i32 (swapTo L k m))).set m (by omega) (.int .i32 (swapTo L k k))
      have HB : Hid (Below w.heap.size w ((wr.setCell ⟨w.heap.size, k, none⟩ (.int .i32 (swapTo L k m))).setCell ⟨w.heap.size, m, none⟩ (.int .i32 (swapTo L k k)))) := (hB.setCell (Nat.le_refl _) _).setCell (Nat.le_refl _) _
      clear c1 c2 c3 f1 f2 hR hB
      go_wp2
      go_roundw
      case rel =>
        refine ⟨k + 1, by omega, by go_num, by have := HM.out; go_num, ?_, HB.out.drew⟩
        refine R.drew.congr fun t ht => ?_
        rw [← swapTo_step L k m t hlt HM.out]
        split <;> (try split) <;> rfl
      case measure => simp [intOf]; omega
    · have hcv2 := run_convert_runes (P := Uahg.prog) wr 36 9 21 ⟨w.heap.size, 0, none⟩ L.length cp L.reverse (by simp) Uahg.underlying36 Uahg.underlying21 Uahg.underlying9
        (fun j hj => by rw [Addr.add_lit, Nat.zero_add, hR.cell j (by simpa using hj), swapTo_all L k j (by omega) (by simpa using hj)])
      rw [List.take_of_length_le (by simp)] at hcv2
      clear hcv hc ha hrow
      go_wp2
      go_ret2
      exact ⟨rfl, hB⟩

set_option maxHeartbeats 400000 in
theorem rev21 (s : ByteArray) (w : World) (hs : s.size ≤ 1048576) :
    Calls Uahg.prog 21 #[.string s] w fun e w' => e = .returned (.string (runesBytes (runes s).reverse)) ∧ Below w.heap.size w w' := by
  have ha := as_str1 (runesBytes (runes s).reverse)
  go_enter Uahg.func21, Uahg.ntmps21
  go_wp2_with fail
  refine (rev27_str s w.heap.size 1 _ hs (by simp)).mono ?_
  rintro e w1 ⟨rfl, hb⟩
  go_wp2
  go_ret
  exact ⟨rfl, Below.step ((Below.refl _ _).alloc (Nat.le_refl _) _) (by simp) hb⟩

theorem runesBytes_small (s : ByteArray) (hs : s.size ≤ 1048576) : (runesBytes (runes s).reverse).size ≤ 4194304 := by
  have h1 := runesBytes_size_le (runes s).reverse
  have h2 := runes_len s
  simp at h1; omega

theorem runes_back (s : ByteArray) : runes (runesBytes (runes s).reverse) = (runes s).reverse :=
  runes_runesBytes _ fun r hr => runes_valid s r (by simpa using hr)

set_option maxHeartbeats 400000 in
theorem law7 (s : ByteArray) (w : World) : Calls Uahg.prog 7 #[.string s] w fun e w' => e = .returned (.bool true) ∧ Below w.heap.size w w' := by
  by_cases hs : s.size ≤ 1048576
  · have hlen := runes_len s
    obtain ⟨cp, C, hcv, hC⟩ := runes_conv s (by omega) w
    have hrow : Hid (Row (w.drew.alloc (.cells C 21)) w.heap.size (runes s).length fun t => .int .i32 ((runes s).getD t 0)) := Row.new w.drew C 21 _ _ hC
    clear hC
    go_enter Uahg.func7, Uahg.ntmps7
    go_wp2_with (go_at_call 20; refine (bytes20_yes s _ hs).mono ?_; rintro e w' ⟨rfl, rfl⟩)
    refine (rev21 s _ hs).mono ?_
    rintro e w2 ⟨rfl, hb⟩
    have hrow2 := hrow.out.below hb (by simp)
    have hb2 : Below w.heap.size w w2 := Below.step ((Below.refl _ _).drew.alloc (Nat.le_refl _) _) (by simp) hb
    obtain ⟨cp2, C2, hcv2, hC2⟩ := runes_conv (runesBytes (runes s).reverse) (runesBytes_small s hs) w2
    have hrow3 := Row.new w2.drew C2 21 _ _ hC2
    have hrow4 := hrow2.drew.alloc (.cells C2 21)
    have hb3 : Below w.heap.size w (w2.drew.alloc (.cells C2 21)) := hb2.drew.alloc hb2.size _
    rw [runes_back] at hcv2 hrow3
    have HR : Hid (Row (w2.drew.alloc (.cells C2 21)) w.heap.size (runes s).length (fun t => .int .i32 ((runes s).getD t 0)) ∧ Row (w2.drew.alloc (.cells C2 21)) w2.heap.size (runes s).length (fun t => .int .i32 ((runes s).reverse.getD t 0)) ∧ Below w.heap.size w (w2.drew.alloc (.cells C2 21))) :=
      ⟨hrow4, by simpa using hrow3, hb3⟩
    simp only [List.length_reverse] at hcv2
    clear hrow hrow2 hb hC2 hrow3 hrow4 hb3 hcv
    generalize hL : runes s = L at *
    have HL : Hid (runes s = L) := hL
    clear hL
    go_wp2_with fail
    go_loopw [6] (fun i wr => ∃ k : Nat, k ≤ L.length ∧ i = .int .i64 k ∧ Row wr w.heap.size L.length (fun t => .int .i32 (L.getD t 0)) ∧ Row wr w2.heap.size L.length (fun t => .int .i32 (L.reverse.getD t 0)) ∧ Below w.heap.size w wr) (fun i _ => L.length - (intOf i).toNat)
    case atStart => exact ⟨0, by omega, rfl, HR.out.1, HR.out.2.1, HR.out.2.2⟩
    case round =>
      obtain ⟨k, hk, rfl, hR1, hR2, hB⟩ := hrel
      clear hcv2
      by_cases hlt : k < L.length
      · obtain ⟨m, hm, hm2⟩ : ∃ m : Nat, (L.length : Int) - 1 - k = m ∧ k + m + 1 = L.length := ⟨L.length - 1 - k, by omega, by omega⟩
        have c1 := hR2.cell k hlt
        have c2 := hR1.cell m (by omega)
        have e : L.reverse.getD k 0 = L.getD m 0 := by simp only [List.getD]; rw [List.getElem?_reverse hlt]; congr 2; omega
        rw [e] at c1
        have b2 : m < L.length := by omega
        have hz : (L.length : Int) - 1 - k < L.length := by omega
        have hz0 : 0 ≤ (L.length : Int) - 1 - k := by omega
        have hi0 : (k : Int) < L.length := by omega
        clear e hm2
        go_wp2_with fail
        go_region
        go_wp2
        go_roundw
        case rel => exact ⟨k + 1, by omega, by go_num, hR1.drew, hR2.drew, hB.drew⟩
        case measure => simp [intOf]; omega
      · go_wp2
        go_ret
        exact ⟨rfl, hB⟩
  · go_enter Uahg.func7, Uahg.ntmps7
    go_wp2_with (go_at_call 20; refine (bytes20_no s _ (by omega)).mono ?_; rintro e w' ⟨rfl, rfl⟩)
    go_ret
    exact ⟨rfl, Below.refl _ _⟩
end Go.Proofs.Youahw
