/-
  THE WALKS OF package sort's symMerge.
-/
import Derived.Test.YouahwSortWalk
namespace Go.Proofs.Youahw
open Go.RowKit

theorem bs1_yes {α : Type} {lt : α → α → Bool} (o : Ord lt) {d : Nat → α} {m c h : Nat} {z : α} (hB : Sorted lt m c d) (hh : h < c) (hv : lt (d h) z = true) : ∀ t, m ≤ t → t < h + 1 → lt (d t) z = true :=
  fun t h1 h2 => o.le_lt (hB.le o t h h1 (by omega) hh) hv
theorem bs1_no {α : Type} {lt : α → α → Bool} (o : Ord lt) {d : Nat → α} {m c h : Nat} {z : α} (hB : Sorted lt m c d) (hm : m ≤ h) (hv : lt (d h) z = false) : ∀ t, h ≤ t → t < c → lt (d t) z = false :=
  fun t h1 h2 => by
    cases e : lt (d t) z with
    | false => rfl
    | true => rw [o.le_lt (hB.le o h t hm h1 h2) e] at hv; cases hv

set_option maxRecDepth 100000 in
set_option maxHeartbeats 1000000 in
theorem sym37_left {α : Type} {enc : α → Value} {lt : α → α → Bool} {T : TypeId} {rv : Value} {gl gs b n : Nat} (M : Meth enc lt T rv gl gs b n) (d : Nat → α) (a m c : Nat) (w : World)
    (ha : m = a + 1) (hm : m < c) (hc : c ≤ n) (hn : n ≤ 1048576) (hS : Row w b n fun t => enc (d t)) (hB : Sorted lt m c d) :
    Calls Uahg.prog 37 #[.iface T rv, .int .i64 a, .int .i64 m, .int .i64 c] w fun e w' => Sorts enc b n w (fun d' => Mix a c n d d' ∧ Sorted lt a c d') e w' := by
  have e0 : ((m : Int) - a == 1) = true := by simp; omega
  have HA : Hid (m = a + 1) := ha
  have am : a < m := by omega
  have am2 : m ≤ a + 1 := by omega
  have mS := M.findS
  have eS := M.entS
  have mL := M.findL
  have eL := M.entL
  clear ha
  go_enter Uahg.func37, Uahg.ntmps37
  go_wp2_with fail
  go_loopw [8, 9] (fun vi vj wr => ∃ (i j : Nat), m ≤ i ∧ i ≤ j ∧ j ≤ c ∧ vi = .int .i64 i ∧ vj = .int .i64 j ∧ St enc b n w d wr ∧ (∀ t, m ≤ t → t < i → lt (d t) (d a) = true) ∧ (∀ t, j ≤ t → t < c → lt (d t) (d a) = false)) (fun vi vj _ => (intOf vj).toNat - (intOf vi).toNat)
  case atStart => exact ⟨m, c, by omega, by omega, by omega, rfl, rfl, ⟨hS, Only.refl _ _⟩, fun t h1 h2 => by omega, fun t h1 h2 => by omega⟩
  case round =>
    obtain ⟨i, j, hmi, hij, hjc, rfl, rfl, hSt, hL, hR⟩ := hrel
    have HL : Hid ((∀ t, m ≤ t → t < i → lt (d t) (d a) = true) ∧ (∀ t, j ≤ t → t < c → lt (d t) (d a) = false)) := ⟨hL, hR⟩
    clear hL hR
    by_cases hlt : i < j
    · obtain ⟨h, hh⟩ : ∃ h : Nat, h = (i + j) / 2 := ⟨_, rfl⟩
      have hih : i ≤ h := by omega
      have hhj : h < j := by omega
      have HH : Hid (((i : Int) + j) / 2 = h) := by show _ = _; omega
      clear hh
      go_wp2_with fail
      rw [HH.out]
      refine (M.less d w wr h a _ _ hSt rfl rfl (by omega) (by omega)).mono ?_
      rintro e' w2 ⟨rfl, hB2⟩
      have HS : Hid (St enc b n w d w2) := hSt.below hB2
      clear hSt hB2
      cases hv : lt (d h) (d a) with
      | true =>
        have HV : Hid ((∀ t, m ≤ t → t < h + 1 → lt (d t) (d a) = true) ∧ (∀ t, j ≤ t → t < c → lt (d t) (d a) = false)) := ⟨bs1_yes M.ord hB (by omega) hv, HL.out.2⟩
        clear hv HL
        go_wp2
        go_roundw
        case rel => exact ⟨h + 1, j, by omega, by omega, hjc, by go_num, rfl, HS.out, HV.out.1, HV.out.2⟩
        case measure => simp [intOf]; omega
      | false =>
        have HV : Hid ((∀ t, m ≤ t → t < i → lt (d t) (d a) = true) ∧ (∀ t, h ≤ t → t < c → lt (d t) (d a) = false)) := ⟨HL.out.1, bs1_no M.ord hB (by omega) hv⟩
        clear hv HL
        go_wp2
        go_roundw
        case rel => exact ⟨i, h, by omega, by omega, by omega, rfl, by go_num, HS.out, HV.out.1, HV.out.2⟩
        case measure => simp [intOf]; omega
    · have hij2 : i = j := by omega
      subst hij2
      have HE : Hid (Mix a c n d (mvR d a (i - 1 - a)) ∧ Sorted lt a c (mvR d a (i - 1 - a))) :=
        ⟨mvR_mix d _ (Nat.le_refl _) (by omega) hc, sorted_mvR M.ord (by rw [← HA.out]; exact hB) (by omega) (by omega) (by rw [← HA.out]; exact HL.out.1) HL.out.2⟩
      have HS : Hid (St enc b n w (mvR d a 0) wr) := hSt
      clear HL hSt
      go_wp2_with fail
      go_loopw [11] (fun vk wr => ∃ q : Nat, a + q + 1 ≤ i ∧ vk = .int .i64 ((a + q : Nat) : Int) ∧ St enc b n w (mvR d a q) wr) (fun vk _ => i - (intOf vk).toNat)
      case atStart => exact ⟨0, by omega, by go_num, HS.out⟩
      case round =>
        obtain ⟨q, hq, rfl, hSt⟩ := hrel
        clear HS
        by_cases hlt2 : a + q + 1 < i
        · go_wp2_with fail
          refine (M.swap _ w wr (a + q) (a + q + 1) _ _ hSt (by simp) (by simp) (by omega) (by omega)).mono ?_
          rintro e' w2 ⟨rfl, hSt2⟩
          have HS : Hid (St enc b n w (mvR d a (q + 1)) w2) := hSt2
          clear hSt hSt2
          go_wp2
          go_roundw
          case rel => exact ⟨q + 1, by omega, by go_num, HS.out⟩
          case measure => simp [intOf]; omega
        · have hqi : q = i - 1 - a := by omega
          have HF : Hid (Sorts enc b n w (fun d' => Mix a c n d d' ∧ Sorted lt a c d') (.returned (.tuple #[])) wr) := ⟨rfl, _, hSt, by rw [hqi]; exact HE.out⟩
          clear hqi hSt HE
          go_wp2
          go_end0
          exact HF.out

theorem bs2_yes {α : Type} {lt : α → α → Bool} (o : Ord lt) {d : Nat → α} {a m h : Nat} {z : α} (hA : Sorted lt a m d) (hh : h < m) (hv : lt z (d h) = false) : ∀ t, a ≤ t → t < h + 1 → lt z (d t) = false :=
  fun t h1 h2 => o.trans _ _ _ (hA.le o t h h1 (by omega) hh) hv
theorem bs2_no {α : Type} {lt : α → α → Bool} (o : Ord lt) {d : Nat → α} {a m h : Nat} {z : α} (hA : Sorted lt a m d) (hm : a ≤ h) (hv : lt z (d h) = true) : ∀ t, h ≤ t → t < m → lt z (d t) = true :=
  fun t h1 h2 => o.lt_le hv (hA.le o h t hm h1 h2)

set_option maxRecDepth 100000 in
set_option maxHeartbeats 1000000 in
theorem sym37_right {α : Type} {enc : α → Value} {lt : α → α → Bool} {T : TypeId} {rv : Value} {gl gs b n : Nat} (M : Meth enc lt T rv gl gs b n) (d : Nat → α) (a m c : Nat) (w : World)
    (ha : a + 1 < m) (hm : c = m + 1) (hc : c ≤ n) (hn : n ≤ 1048576) (hS : Row w b n fun t => enc (d t)) (hB : Sorted lt a m d) :
    Calls Uahg.prog 37 #[.iface T rv, .int .i64 a, .int .i64 m, .int .i64 c] w fun e w' => Sorts enc b n w (fun d' => Mix a c n d d' ∧ Sorted lt a c d') e w' := by
  have e0 : ((m : Int) - a == 1) = false := by simp; omega
  have e1 : ((c : Int) - m == 1) = true := by simp; omega
  have HA : Hid (c = m + 1) := hm
  have am : m < c := by omega
  have am2 : c ≤ m + 1 := by omega
  have mS := M.findS
  have eS := M.entS
  have mL := M.findL
  have eL := M.entL
  clear hm
  go_enter Uahg.func37, Uahg.ntmps37
  go_wp2_with fail
  go_loopw [12, 13] (fun vi vj wr => ∃ (i j : Nat), a ≤ i ∧ i ≤ j ∧ j ≤ m ∧ vi = .int .i64 i ∧ vj = .int .i64 j ∧ St enc b n w d wr ∧ (∀ t, a ≤ t → t < i → lt (d m) (d t) = false) ∧ (∀ t, j ≤ t → t < m → lt (d m) (d t) = true)) (fun vi vj _ => (intOf vj).toNat - (intOf vi).toNat)
  case atStart => exact ⟨a, m, by omega, by omega, by omega, rfl, rfl, ⟨hS, Only.refl _ _⟩, fun t h1 h2 => by omega, fun t h1 h2 => by omega⟩
  case round =>
    obtain ⟨i, j, hmi, hij, hjc, rfl, rfl, hSt, hL, hR⟩ := hrel
    have HL : Hid ((∀ t, a ≤ t → t < i → lt (d m) (d t) = false) ∧ (∀ t, j ≤ t → t < m → lt (d m) (d t) = true)) := ⟨hL, hR⟩
    clear hL hR
    by_cases hlt : i < j
    · obtain ⟨h, hh⟩ : ∃ h : Nat, h = (i + j) / 2 := ⟨_, rfl⟩
      have hih : i ≤ h := by omega
      have hhj : h < j := by omega
      have HH : Hid (((i : Int) + j) / 2 = h) := by show _ = _; omega
      clear hh
      go_wp2_with fail
      rw [HH.out]
      refine (M.less d w wr m h _ _ hSt rfl rfl (by omega) (by omega)).mono ?_
      rintro e' w2 ⟨rfl, hB2⟩
      have HS : Hid (St enc b n w d w2) := hSt.below hB2
      clear hSt hB2
      cases hv : lt (d m) (d h) with
      | false =>
        have HV : Hid ((∀ t, a ≤ t → t < h + 1 → lt (d m) (d t) = false) ∧ (∀ t, j ≤ t → t < m → lt (d m) (d t) = true)) := ⟨bs2_yes M.ord hB (by omega) hv, HL.out.2⟩
        clear hv HL
        go_wp2
        go_roundw
        case rel => exact ⟨h + 1, j, by omega, by omega, hjc, by go_num, rfl, HS.out, HV.out.1, HV.out.2⟩
        case measure => simp [intOf]; omega
      | true =>
        have HV : Hid ((∀ t, a ≤ t → t < i → lt (d m) (d t) = false) ∧ (∀ t, h ≤ t → t < m → lt (d m) (d t) = true)) := ⟨HL.out.1, bs2_no M.ord hB (by omega) hv⟩
        clear hv HL
        go_wp2
        go_roundw
        case rel => exact ⟨i, h, by omega, by omega, by omega, rfl, by go_num, HS.out, HV.out.1, HV.out.2⟩
        case measure => simp [intOf]; omega
    · have hij2 : i = j := by omega
      subst hij2
      have HE : Hid (Mix a c n d (mvL d m (m - i)) ∧ Sorted lt a c (mvL d m (m - i))) :=
        ⟨mvL_mix d _ (by omega) (by omega) hc, by rw [HA.out]; exact sorted_mvL M.ord hB (by omega) (by omega) HL.out.1 HL.out.2⟩
      have HS : Hid (St enc b n w (mvL d m 0) wr) := hSt
      clear HL hSt
      go_wp2_with fail
      go_loopw [15] (fun vk wr => ∃ q : Nat, i + q ≤ m ∧ vk = .int .i64 ((m - q : Nat) : Int) ∧ St enc b n w (mvL d m q) wr) (fun vk _ => (intOf vk).toNat)
      case atStart => exact ⟨0, by omega, by go_num, HS.out⟩
      case round =>
        obtain ⟨q, hq, rfl, hSt⟩ := hrel
        clear HS
        by_cases hlt2 : i + q < m
        · obtain ⟨k, hk⟩ : ∃ k : Nat, k = m - q := ⟨_, rfl⟩
          have hk1 : i < k := by omega
          have hk2 : k ≤ m := by omega
          rw [← hk]
          have HK : Hid (k = m - q) := hk
          clear hk
          go_wp2_with fail
          refine (M.swap _ w wr k (k - 1) _ _ hSt rfl (by omega) (by omega) (by omega)).mono ?_
          rintro e' w2 ⟨rfl, hSt2⟩
          have HS : Hid (St enc b n w (mvL d m (q + 1)) w2) := by rw [HK.out] at hSt2; exact hSt2
          clear hSt hSt2
          go_wp2
          go_roundw
          case rel => exact ⟨q + 1, by omega, by have := HK.out; go_num, HS.out⟩
          case measure => simp [intOf]; omega
        · have hqi : q = m - i := by omega
          have HF : Hid (Sorts enc b n w (fun d' => Mix a c n d d' ∧ Sorted lt a c d') (.returned (.tuple #[])) wr) := ⟨rfl, _, hSt, by rw [hqi]; exact HE.out⟩
          have hk3 : m - q ≤ i := by omega
          clear hqi hSt HE
          go_wp2
          go_end0
          exact HF.out
end Go.Proofs.Youahw
