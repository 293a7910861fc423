/-
  THE WALK OF package sort's symMerge, where both sides hold two elements or more: by its own contract at smaller ranges.
-/
import Derived.Test.YouahwSym
import Derived.Deep.DeepCutAuto
namespace Go.Proofs.Youahw
open Go.RowKit

/-- symMerge's contract at ranges of fewer than N places. -/
def SymAt {α : Type} (enc : α → Value) (lt : α → α → Bool) (T : TypeId) (rv : Value) (b n N : Nat) : Prop :=
  ∀ (d : Nat → α) (a m c : Nat) (A M' C : Int) (w : World), A = a → M' = m → C = c → a < m → m < c → c ≤ n → c < a + N → (Row w b n fun t => enc (d t)) → Sorted lt a m d → Sorted lt m c d →
    Calls Uahg.prog 37 #[.iface T rv, .int .i64 A, .int .i64 M', .int .i64 C] w fun e w' => Sorts enc b n w (fun d' => Mix a c n d d' ∧ Sorted lt a c d') e w'

theorem bs3_yes {α : Type} {lt : α → α → Bool} (o : Ord lt) {d : Nat → α} {a m c h lo S : Nat} (hA : Sorted lt a m d) (hB : Sorted lt m c d) (h1 : a ≤ lo) (h2 : h < m) (h3 : m + h + 1 ≤ S) (h4 : S ≤ lo + c)
    (hv : lt (d (S - 1 - h)) (d h) = false) : ∀ t, lo ≤ t → t < h + 1 → lt (d (S - 1 - t)) (d t) = false :=
  fun t g1 g2 => o.trans _ _ _ (o.trans _ _ _ (hA.le o t h (by omega) (by omega) h2) hv) (hB.le o (S - 1 - h) (S - 1 - t) (by omega) (by omega) (by omega))
theorem bs3_no {α : Type} {lt : α → α → Bool} (o : Ord lt) {d : Nat → α} {a m c h r0 S : Nat} (hA : Sorted lt a m d) (hB : Sorted lt m c d) (h1 : a ≤ h) (h2 : r0 ≤ m) (h3 : m + r0 ≤ S) (h4 : S ≤ h + c) (hS : h < S)
    (hv : lt (d (S - 1 - h)) (d h) = true) : ∀ t, h ≤ t → t < r0 → lt (d (S - 1 - t)) (d t) = true :=
  fun t g1 g2 => o.lt_le (o.le_lt (hB.le o (S - 1 - t) (S - 1 - h) (by omega) (by omega) (by omega)) hv) (hA.le o h t h1 g1 (by omega))

set_option maxRecDepth 100000 in
set_option maxHeartbeats 1000000 in
theorem sym37_mid {α : Type} {enc : α → Value} {lt : α → α → Bool} {T : TypeId} {rv : Value} {gl gs b n : Nat} (M : Meth enc lt T rv gl gs b n) (d : Nat → α) (a m c : Nat) (w : World)
    (ha : a + 1 < m) (hm : m + 1 < c) (hc : c ≤ n) (hn : n ≤ 1048576) (hS : Row w b n fun t => enc (d t)) (hA : Sorted lt a m d) (hB : Sorted lt m c d) (IH : SymAt enc lt T rv b n (c - a)) :
    Calls Uahg.prog 37 #[.iface T rv, .int .i64 a, .int .i64 m, .int .i64 c] w fun e w' => Sorts enc b n w (fun d' => Mix a c n d d' ∧ Sorted lt a c d') e w' := by
  have e0 : ((m : Int) - a == 1) = false := by simp; omega
  have e1 : ((c : Int) - m == 1) = false := by simp; omega
  have mL := M.findL
  have eL := M.entL
  obtain ⟨mid, hmid⟩ : ∃ mid : Nat, mid = (a + c) / 2 := ⟨_, rfl⟩
  have hmd1 : a < mid := by omega
  have hmd2 : mid < c := by omega
  have hmd3 : 2 * mid ≤ a + c := by omega
  have hmd4 : a + c ≤ 2 * mid + 1 := by omega
  have HMD : Hid (((a : Int) + c) / 2 = mid) := by show _ = _; omega
  clear hmid
  go_enter Uahg.func37, Uahg.ntmps37
  go_upto_if 102 with fail
  rw [HMD.out]
  go_cut [18, 19] (fun vs vr wx => ∃ lo r0 : Nat, vs = .int .i64 lo ∧ vr = .int .i64 r0 ∧ a ≤ lo ∧ lo ≤ r0 ∧ r0 ≤ m ∧ r0 ≤ mid ∧ mid + m ≤ lo + c ∧ (lo = a ∨ mid + m = lo + c) ∧ (r0 = m ∨ r0 = mid) ∧ w = wx)
  case first =>
    by_cases hx : mid < m
    · go_wp2
      go_meet
      case rel => exact ⟨mid + m - c, mid, by go_num, rfl, by omega, by omega, by omega, by omega, by omega, by omega, by omega, rfl⟩
    · go_wp2
      go_meet
      case rel => exact ⟨a, m, rfl, rfl, by omega, by omega, by omega, by omega, by omega, by omega, by omega, rfl⟩
  case rest =>
    obtain ⟨lo, r0, rfl, rfl, g1, g2, g3, g4, g5, g6, g7, rfl⟩ := hcut
    have HG : Hid ((lo = a ∨ mid + m = lo + c) ∧ (r0 = m ∨ r0 = mid)) := ⟨g6, g7⟩
    clear g6 g7
    have HAB : Hid (Sorted lt a m d ∧ Sorted lt m c d) := ⟨hA, hB⟩
    clear hA hB
    go_wp2_with fail
    go_loopw [18, 19] (fun vs vr wr => ∃ s r : Nat, lo ≤ s ∧ s ≤ r ∧ r ≤ r0 ∧ vs = .int .i64 s ∧ vr = .int .i64 r ∧ St enc b n w d wr ∧ (∀ t, lo ≤ t → t < s → lt (d (mid + m - 1 - t)) (d t) = false) ∧ (∀ t, r ≤ t → t < r0 → lt (d (mid + m - 1 - t)) (d t) = true)) (fun vs vr _ => (intOf vr).toNat - (intOf vs).toNat)
    case atStart => exact ⟨lo, r0, by omega, by omega, by omega, rfl, rfl, ⟨hS, Only.refl _ _⟩, fun t h1 h2 => by omega, fun t h1 h2 => by omega⟩
    case round =>
      obtain ⟨s, r, q1, q2, q3, rfl, rfl, hSt, hL, hR⟩ := hrel
      have HL : Hid ((∀ t, lo ≤ t → t < s → lt (d (mid + m - 1 - t)) (d t) = false) ∧ (∀ t, r ≤ t → t < r0 → lt (d (mid + m - 1 - t)) (d t) = true)) := ⟨hL, hR⟩
      clear hL hR hS
      by_cases hlt : s < r
      · obtain ⟨h, hh⟩ : ∃ h : Nat, h = (s + r) / 2 := ⟨_, rfl⟩
        have hih : s ≤ h := by omega
        have hhj : h < r := by omega
        have HH : Hid (((s : Int) + r) / 2 = h) := by show _ = _; omega
        clear hh
        go_wp2_with fail
        rw [HH.out]
        refine (M.less d w wr (mid + m - 1 - h) h _ _ hSt (by omega) rfl (by omega) (by omega)).mono ?_
        rintro e' w2 ⟨rfl, hB2⟩
        have HS : Hid (St enc b n w d w2) := hSt.below hB2
        clear hSt hB2
        cases hv : lt (d (mid + m - 1 - h)) (d h) with
        | false =>
          have HV : Hid ((∀ t, lo ≤ t → t < h + 1 → lt (d (mid + m - 1 - t)) (d t) = false) ∧ (∀ t, r ≤ t → t < r0 → lt (d (mid + m - 1 - t)) (d t) = true)) := ⟨bs3_yes M.ord HAB.out.1 HAB.out.2 g1 (by omega) (by omega) (by omega) hv, HL.out.2⟩
          clear hv HL
          go_wp2
          go_roundw
          case rel => exact ⟨h + 1, r, by omega, by omega, q3, by go_num, rfl, HS.out, HV.out.1, HV.out.2⟩
          case measure => simp [intOf]; omega
        | true =>
          have HV : Hid ((∀ t, lo ≤ t → t < s → lt (d (mid + m - 1 - t)) (d t) = false) ∧ (∀ t, h ≤ t → t < r0 → lt (d (mid + m - 1 - t)) (d t) = true)) := ⟨HL.out.1, bs3_no M.ord HAB.out.1 HAB.out.2 (by omega) g3 (by omega) (by omega) (by omega) hv⟩
          clear hv HL
          go_wp2
          go_roundw
          case rel => exact ⟨s, h, by omega, by omega, by omega, rfl, by go_num, HS.out, HV.out.1, HV.out.2⟩
          case measure => simp [intOf]; omega
      · have hsr : s = r := by omega
        subst hsr
        obtain ⟨en, hen⟩ : ∃ en : Nat, en = mid + m - s := ⟨_, rfl⟩
        have k1 : s ≤ m := by omega
        have k2 : s ≤ mid := by omega
        have k3 : mid ≤ en := by omega
        have k4 : m ≤ en := by omega
        have k5 : en ≤ c := by omega
        have k6 : a ≤ s := by omega
        have HEN : Hid ((mid : Int) + m - s = en) := by show _ = _; omega
        have HP : Hid (∀ d1 : Nat → α, (∀ t, d1 t = rot d s m en t) → Sorted lt a s d1 ∧ Sorted lt s mid d1 ∧ Sorted lt mid en d1 ∧ Sorted lt en c d1 ∧ ∀ x y, a ≤ x → x < mid → mid ≤ y → y < c → lt (d1 y) (d1 x) = false) := by
          intro d1 hd1
          rw [hen] at hd1 ⊢
          refine sym_parts M.ord HAB.out.1 HAB.out.2 (by omega) k6 k1 k2 (by omega) hd1 ?_ ?_
          · by_cases c1 : s = lo
            · exact .inl (by have := HG.out.1; omega)
            · have := HL.out.1 (s - 1) (by omega) (by omega)
              rw [show mid + m - 1 - (s - 1) = mid + m - s by omega] at this
              exact .inr this
          · by_cases c1 : s = r0
            · exact .inl (by have := HG.out.2; omega)
            · exact .inr (HL.out.2 s (by omega) (by omega))
        clear hen HL HAB HG
        go_upto_region 39 with fail
        rw [HEN.out]
        go_cut [140] (fun v wx => ∃ B : Bool, v = .bool B ∧ (B = true ↔ s < m ∧ m < en) ∧ wr = wx)
        case first =>
          by_cases c1 : s < m
          · by_cases c2 : m < en
            · go_wp2
              go_meet
              case rel => exact ⟨true, by simp, by simp; omega, rfl⟩
            · go_wp2
              go_meet
              case rel => exact ⟨false, by simp, by simp; omega, rfl⟩
          · have c3 : decide ((s : Int) < m) = false := decide_eq_false (by omega)
            go_wp2
            go_meet
            case rel => exact ⟨false, rfl, by simp; omega, rfl⟩
        case rest =>
          obtain ⟨B, rfl, hBB, rfl⟩ := hcut
          have HBB : Hid (B = true ↔ s < m ∧ m < en) := hBB
          clear hBB
          go_upto_if 140 with fail
          go_cut [] (fun wx => ∃ d1 : Nat → α, St enc b n w d1 wx ∧ Mix a c n d d1 ∧ ∀ t, d1 t = rot d s m en t)
          case first =>
            cases B with
            | true =>
              obtain ⟨c1, c2⟩ := HBB.out.1 rfl
              go_wp2_with fail
              refine (rotate40 M d s m en _ _ _ wr rfl rfl rfl c1 c2 (by omega) hn hSt.row).mono ?_
              rintro e' w2 ⟨rfl, d1, hSt1, hMx1, hd1⟩
              have HZ : Hid (∃ d1 : Nat → α, St enc b n w d1 w2 ∧ Mix a c n d d1 ∧ ∀ t, d1 t = rot d s m en t) := ⟨d1, hSt.step hSt1, hMx1.mono k6 k5, hd1⟩
              clear hSt hSt1 hMx1 hd1
              go_wp2
              go_meet
              case rel => exact HZ.out
            | false =>
              have c1 : ¬ (s < m ∧ m < en) := fun h => by have := HBB.out.2 h; cases this
              have HZ : Hid (∃ d1 : Nat → α, St enc b n w d1 wr ∧ Mix a c n d d1 ∧ ∀ t, d1 t = rot d s m en t) := ⟨d, hSt, Mix.refl _ _ _ _, fun t => (rot_same k1 k4 (by omega) t).symm⟩
              clear hSt c1
              go_wp2
              go_meet
              case rel => exact HZ.out
          case rest =>
            obtain ⟨d1, hSt1, hMx1, hd1⟩ := hcut
            have HP1 : Hid (Sorted lt a s d1 ∧ Sorted lt s mid d1 ∧ Sorted lt mid en d1 ∧ Sorted lt en c d1 ∧ ∀ x y, a ≤ x → x < mid → mid ≤ y → y < c → lt (d1 y) (d1 x) = false) := HP.out d1 hd1
            have HM1 : Hid (Mix a c n d d1) := hMx1
            have HS1 : Hid (St enc b n w d1 wc) := hSt1
            clear hd1 HP hMx1 hSt1 hSt HBB
            go_upto_region 41 with fail
            go_cut [153] (fun v wx => ∃ B : Bool, v = .bool B ∧ (B = true ↔ a < s ∧ s < mid) ∧ wc = wx)
            case first =>
              by_cases c1 : a < s
              · by_cases c2 : s < mid
                · go_wp2
                  go_meet
                  case rel => exact ⟨true, by simp, by simp; omega, rfl⟩
                · go_wp2
                  go_meet
                  case rel => exact ⟨false, by simp, by simp; omega, rfl⟩
              · have c3 : decide ((a : Int) < s) = false := decide_eq_false (by omega)
                go_wp2
                go_meet
                case rel => exact ⟨false, rfl, by simp; omega, rfl⟩
            case rest =>
              obtain ⟨B2, rfl, hB2, rfl⟩ := hcut
              have HB2 : Hid (B2 = true ↔ a < s ∧ s < mid) := hB2
              clear hB2
              go_upto_if 153 with fail
              go_cut [] (fun wx => ∃ d2 : Nat → α, St enc b n w d2 wx ∧ Mix a mid n d1 d2 ∧ Sorted lt a mid d2)
              case first =>
                cases B2 with
                | true =>
                  obtain ⟨c1, c2⟩ := HB2.out.1 rfl
                  go_wp2_with fail
                  refine (IH d1 a s mid _ _ _ wc rfl rfl rfl c1 c2 (by omega) (by omega) HS1.out.row HP1.out.1 HP1.out.2.1).mono ?_
                  rintro e' w2 ⟨rfl, d2, hSt2, hMx2, hd2⟩
                  have HZ : Hid (∃ d2 : Nat → α, St enc b n w d2 w2 ∧ Mix a mid n d1 d2 ∧ Sorted lt a mid d2) := ⟨d2, HS1.out.step hSt2, hMx2, hd2⟩
                  clear hSt2 hMx2 hd2
                  go_wp2
                  go_meet
                  case rel => exact HZ.out
                | false =>
                  have c1 : ¬ (a < s ∧ s < mid) := fun h => by have := HB2.out.2 h; cases this
                  have HZ : Hid (∃ d2 : Nat → α, St enc b n w d2 wc ∧ Mix a mid n d1 d2 ∧ Sorted lt a mid d2) := ⟨d1, HS1.out, Mix.refl _ _ _ _, by
                    by_cases c2 : a < s
                    · exact HP1.out.1.sub (Nat.le_refl _) (by omega)
                    · exact HP1.out.2.1.sub (by omega) (Nat.le_refl _)⟩
                  clear c1
                  go_wp2
                  go_meet
                  case rel => exact HZ.out
              case rest =>
                obtain ⟨d2, hSt2, hMx2, hSo2⟩ := hcut
                have HS2 : Hid (St enc b n w d2 wc) := hSt2
                have HF : Hid (∀ d3, Mix mid c n d2 d3 → Sorted lt mid c d3 → Mix a c n d d3 ∧ Sorted lt a c d3) := fun d3 hMx3 hSo3 =>
                  ⟨(HM1.out.trans (hMx2.mono (Nat.le_refl _) (by omega))).trans (hMx3.mono (by omega) (Nat.le_refl _)), sym_join hMx2 hMx3 hSo2 hSo3 HP1.out.2.2.2.2⟩
                have HQ : Hid (Sorted lt mid en d2 ∧ Sorted lt en c d2) := ⟨HP1.out.2.2.1.congr fun t g1 g2 => hMx2.out t (.inr g1), HP1.out.2.2.2.1.congr fun t g1 g2 => hMx2.out t (.inr (by omega))⟩
                clear hSt2 hMx2 hSo2 HP1 HM1 HS1 HB2
                by_cases c1 : mid < en
                · by_cases c2 : en < c
                  · go_wp2_with fail
                    refine (IH d2 mid en c _ _ _ wc rfl rfl rfl c1 c2 (by omega) (by omega) HS2.out.row HQ.out.1 HQ.out.2).mono ?_
                    rintro e' w2 ⟨rfl, d3, hSt3, hMx3, hSo3⟩
                    have HZ : Hid (Sorts enc b n w (fun d' => Mix a c n d d' ∧ Sorted lt a c d') (.returned (.tuple #[])) w2) := ⟨rfl, d3, HS2.out.step hSt3, HF.out d3 hMx3 hSo3⟩
                    clear hSt3 hMx3 hSo3
                    go_wp2
                    go_end0
                    exact HZ.out
                  · have HZ : Hid (Sorts enc b n w (fun d' => Mix a c n d d' ∧ Sorted lt a c d') (.returned (.tuple #[])) wc) := ⟨rfl, d2, HS2.out, HF.out d2 (Mix.refl _ _ _ _) (HQ.out.1.sub (Nat.le_refl _) (by omega))⟩
                    go_wp2
                    go_end0
                    exact HZ.out
                · have HZ : Hid (Sorts enc b n w (fun d' => Mix a c n d d' ∧ Sorted lt a c d') (.returned (.tuple #[])) wc) := ⟨rfl, d2, HS2.out, HF.out d2 (Mix.refl _ _ _ _) (HQ.out.2.sub (by omega) (Nat.le_refl _))⟩
                  have c3 : decide ((mid : Int) < en) = false := decide_eq_false (by omega)
                  go_wp2
                  go_end0
                  exact HZ.out

theorem sym_all {α : Type} {enc : α → Value} {lt : α → α → Bool} {T : TypeId} {rv : Value} {gl gs b n : Nat} (M : Meth enc lt T rv gl gs b n) (hn : n ≤ 1048576) : ∀ N, SymAt enc lt T rv b n N
  | 0 => fun d a m c A M' C w _ _ _ h1 h2 _ h3 => by omega
  | N + 1 => fun d a m c A M' C w hA hM hC h1 h2 h3 h4 hS s1 s2 => by
    subst hA hM hC
    by_cases c1 : m = a + 1
    · exact sym37_left M d a m c w c1 h2 h3 hn hS s2
    · by_cases c2 : c = m + 1
      · exact sym37_right M d a m c w (by omega) c2 h3 hn hS s1
      · refine sym37_mid M d a m c w (by omega) (by omega) h3 hn hS s1 s2 ?_
        intro d' a' m' c' A' M'' C' w' g1 g2 g3 g4 g5 g6 g7 g8 g9 g10
        exact sym_all M hn N d' a' m' c' A' M'' C' w' g1 g2 g3 g4 g5 g6 (by omega) g8 g9 g10

/-- symMerge's contract. -/
theorem sym37 {α : Type} {enc : α → Value} {lt : α → α → Bool} {T : TypeId} {rv : Value} {gl gs b n : Nat} (M : Meth enc lt T rv gl gs b n) (d : Nat → α) (a m c : Nat) (A M' C : Int) (w : World) (hA : A = a) (hM' : M' = m) (hC : C = c)
    (ha : a < m) (hm : m < c) (hc : c ≤ n) (hn : n ≤ 1048576) (hS : Row w b n fun t => enc (d t)) (s1 : Sorted lt a m d) (s2 : Sorted lt m c d) :
    Calls Uahg.prog 37 #[.iface T rv, .int .i64 A, .int .i64 M', .int .i64 C] w fun e w' => Sorts enc b n w (fun d' => Mix a c n d d' ∧ Sorted lt a c d') e w' :=
  sym_all M hn (c - a + 1) d a m c A M' C w hA hM' hC ha hm hc (by omega) hS s1 s2
end Go.Proofs.Youahw
