/-
  THE LAW FnSortNumbersStableRank, walked.
-/
import Derived.Test.YouahwNumArr
namespace Go.Proofs.Youahw
open Go.RowKit

theorem Row.drewM {w : World} {b n : Nat} {g : Nat → Value} (h : Row w b n g) (q : Nat) : Row (w.drewN q) b n g := ⟨h.lt, h.cell, h.free⟩

theorem bytes9 (ao : Option Addr) (n cap : Nat) (w : World) (hm : n ≤ maxLen) :
    Calls Uahg.prog 9 #[.slice ao n cap] w fun e w' => e = .returned (.bool (decide (n ≤ 1048576))) ∧ w = w' := by
  unfold maxLen at hm
  by_cases h : n ≤ 1048576
  · rw [decide_eq_true h]
    go_enter Uahg.func9, Uahg.ntmps9
    go_wp2
    go_ret
    exact ⟨rfl, rfl⟩
  · rw [decide_eq_false h]
    go_enter Uahg.func9, Uahg.ntmps9
    go_wp2
    go_ret
    exact ⟨rfl, rfl⟩

theorem numLess11 (x y : Nat) (w : World) : Calls Uahg.prog 11 #[.float .f64 x, .float .f64 y] w fun e w' => e = .returned (.bool (ltF x y)) ∧ w' = w := by
  rw [ltF_eq]
  cases h1 : (FloatKind.f64.format.order x y == some .lt) with
  | true =>
    go_enter Uahg.func11, Uahg.ntmps11
    go_wp2
    go_ret
    exact ⟨rfl, rfl⟩
  | false =>
    cases h2 : (FloatKind.f64.format.order x x != some .eq) with
    | false =>
      go_enter Uahg.func11, Uahg.ntmps11
      go_wp2
      go_ret
      exact ⟨rfl, rfl⟩
    | true =>
      go_enter Uahg.func11, Uahg.ntmps11
      go_wp2
      go_ret
      exact ⟨rfl, rfl⟩

theorem sameClass12 (x y : Nat) (w : World) (h : ((FloatKind.f64.format.order x y == some .eq) || ((FloatKind.f64.format.order x x != some .eq) && (FloatKind.f64.format.order y y != some .eq))) = true) :
    Calls Uahg.prog 12 #[.float .f64 x, .float .f64 y] w fun e w' => e = .returned (.bool true) ∧ w' = w := by
  cases h1 : (FloatKind.f64.format.order x y == some .eq) with
  | true =>
    clear h
    go_enter Uahg.func12, Uahg.ntmps12
    go_wp2
    go_ret
    exact ⟨rfl, rfl⟩
  | false =>
    rw [h1, Bool.false_or, Bool.and_eq_true] at h
    obtain ⟨h2, h3⟩ := h
    go_enter Uahg.func12, Uahg.ntmps12
    go_wp2
    go_ret
    exact ⟨rfl, rfl⟩

set_option maxHeartbeats 1000000 in
theorem law3_some (a : Addr) (n cap : Nat) (g : Nat → Nat) (w : World) (hm : n ≤ maxLen) (hS : Vals w (some a) n fun t => .float .f64 (g t)) :
    Calls Uahg.prog 3 #[.slice (some a) n cap] w fun e w' => e = .returned (.bool true) ∧ Below w.heap.size w w' := by
  have H9 : Hid (Calls Uahg.prog 9 #[.slice (some a) n cap] w fun e w' => e = .returned (.bool (decide (n ≤ 1048576))) ∧ w = w') := bytes9 (some a) n cap w hm
  unfold maxLen at hm
  by_cases hbig : 1048576 < n
  · rw [decide_eq_false (by omega)] at H9
    go_enter Uahg.func3, Uahg.ntmps3
    go_wp2_with fail
    refine H9.out.mono ?_
    rintro e w' ⟨rfl, rfl⟩
    go_wp2
    go_ret
    exact ⟨rfl, Below.refl _ _⟩
  rw [decide_eq_true (by omega)] at H9
  by_cases hbig2 : 4096 < n
  · go_enter Uahg.func3, Uahg.ntmps3
    go_wp2_with fail
    refine H9.out.mono ?_
    rintro e w' ⟨rfl, rfl⟩
    go_wp2
    go_ret
    exact ⟨rfl, Below.refl _ _⟩
  obtain ⟨C, hCs, _, hmk⟩ := make22 n (by omega)
  obtain ⟨W2, hcp, hR, hB⟩ := copy_row 22 26 Uahg.underlying22 size26 w C n hCs (some a) cap (fun t => .float .f64 (g t)) (fun _ _ => rfl) hS
  have hnil := fun W => run_neq_slice_nil_any (P := Uahg.prog) W 22 26 (some a) n cap 0 0 Uahg.underlying22
  have HR : Hid (Row W2 w.heap.size n (fun t => .float .f64 (g t)) ∧ Below w.heap.size w W2) := ⟨hR, hB⟩
  clear hR hB hCs hS hbig
  simp only [Option.isNone, Bool.not_false] at hnil
  go_enter Uahg.func3, Uahg.ntmps3
  go_wp2_with fail
  refine H9.out.mono ?_
  rintro e w' ⟨rfl, rfl⟩
  clear H9
  go_wp2_with fail
  refine (zsort10 n w.heap.size n g W2 (by omega) HR.out.1).mono ?_
  rintro e w3 ⟨b', d', rfl, hb', hR3, hRd, hB3⟩
  have hlt0 := HR.out.1.lt
  have HR4 : Hid (Row w3 w.heap.size n (fun t => .float .f64 (g t)) ∧ Row w3 b' n (fun t => .float .f64 (d' t)) ∧ Below w.heap.size w w3) :=
    ⟨HR.out.1.below hB3 hlt0, hR3, Below.step HR.out.2 HR.out.2.size hB3⟩
  have HK : Hid (∀ i, i < n → posTo ltF g i n < n ∧ ltF (d' (posTo ltF g i n)) (g i) = false ∧ ltF (g i) (d' (posTo ltF g i n)) = false) := fun i hi => rank ordF hRd.1.bag hRd.2 hi
  clear hR3 hB3 HR hcp hmk hnil hRd
  go_wp2_with fail
  go_loopw [5] (fun vi wr => ∃ i : Nat, i ≤ n ∧ vi = .int .i64 i ∧ Row wr w.heap.size n (fun t => .float .f64 (g t)) ∧ Row wr b' n (fun t => .float .f64 (d' t)) ∧ Below w.heap.size w wr) (fun vi _ => n - (intOf vi).toNat)
  case atStart => exact ⟨0, by omega, rfl, HR4.out.1, HR4.out.2.1, HR4.out.2.2⟩
  case round =>
    obtain ⟨i, hi, rfl, hR1, hR2, hB⟩ := hrel
    have HS : Hid (Row wr w.heap.size n (fun t => .float .f64 (g t)) ∧ Row wr b' n (fun t => .float .f64 (d' t)) ∧ Below w.heap.size w wr) := ⟨hR1, hR2, hB⟩
    clear HR4
    by_cases hlt : i < n
    · clear hR1 hR2 hB
      go_wp2_with fail
      go_loopw [6, 7] (fun vp vj wr => ∃ j : Nat, j ≤ n ∧ vj = .int .i64 j ∧ vp = .int .i64 (posTo ltF g i j : Nat) ∧ Row wr w.heap.size n (fun t => .float .f64 (g t)) ∧ Row wr b' n (fun t => .float .f64 (d' t)) ∧ Below w.heap.size w wr) (fun _ vj _ => n - (intOf vj).toNat)
      case atStart => exact ⟨0, by omega, rfl, rfl, HS.out.1, HS.out.2.1, HS.out.2.2⟩
      case round =>
        obtain ⟨j, hj, rfl, rfl, hR1, hR2, hB⟩ := hrel
        clear HS
        have hple := posTo_le ltF g i j
        by_cases hjn : j < n
        · have c1 := hR1.cell j hjn
          have c2 := hR1.cell i hlt
          have HP : Hid (posTo ltF g i (j + 1) = posTo ltF g i j + (if ltF (g j) (g i) = true then 1 else if j < i ∧ ltF (g i) (g j) = false then 1 else 0)) := rfl
          have i1 : (j : Int) < n := by omega
          have i2 : (i : Int) < n := by omega
          generalize posTo ltF g i j = p at *
          cases hv : ltF (g j) (g i) with
          | true =>
            have HN : Hid (∀ W2, Calls Uahg.prog 11 #[.float .f64 (g j), .float .f64 (g i)] W2 fun e w' => e = .returned (.bool true) ∧ w' = W2) := fun W2 => by have := numLess11 (g j) (g i) W2; rw [hv] at this; exact this
            have HP1 : Hid (posTo ltF g i (j + 1) = p + 1) := by show _ = _; rw [HP.out, if_pos hv]
            clear HP hv
            go_wp2_with fail
            go_quiet ((go_at_call 11; exact Calls.quiet_of_same (HN.out _)))
            go_wp2
            go_roundw
            case rel => exact ⟨j + 1, by omega, by go_num, by rw [HP1.out]; go_num, hR1.drewM _, hR2.drewM _, below_drewN hB _⟩
            case measure => simp [intOf]; omega
          | false =>
            have hvn : ¬ ltF (g j) (g i) = true := by rw [hv]; simp
            have HN : Hid (∀ W2, Calls Uahg.prog 11 #[.float .f64 (g j), .float .f64 (g i)] W2 fun e w' => e = .returned (.bool false) ∧ w' = W2) := fun W2 => by have := numLess11 (g j) (g i) W2; rw [hv] at this; exact this
            by_cases hji : j < i
            · have i3 : (j : Int) < i := by omega
              cases hw : ltF (g i) (g j) with
              | false =>
                have HN2 : Hid (∀ W2, Calls Uahg.prog 11 #[.float .f64 (g i), .float .f64 (g j)] W2 fun e w' => e = .returned (.bool false) ∧ w' = W2) := fun W2 => by have := numLess11 (g i) (g j) W2; rw [hw] at this; exact this
                have HP1 : Hid (posTo ltF g i (j + 1) = p + 1) := by show _ = _; rw [HP.out, if_neg hvn, if_pos ⟨hji, hw⟩]
                clear HP hv hvn hw
                go_wp2_with fail
                go_quiet ((go_at_call 11; exact Calls.quiet_of_same (HN.out _)))
                go_wp2_with fail
                have hR1 := hR1.drewM nq
                have hR2 := hR2.drewM nq
                have hB := below_drewN hB nq
                clear c1 c2
                generalize wr.drewN nq = w9 at *
                have c1 := hR1.cell j hjn
                have c2 := hR1.cell i hlt
                go_quiet ((go_at_call 11; exact Calls.quiet_of_same (HN2.out _)))
                go_wp2
                go_roundw
                case rel => exact ⟨j + 1, by omega, by go_num, by rw [HP1.out]; go_num, hR1.drewM _, hR2.drewM _, below_drewN hB _⟩
                case measure => simp [intOf]; omega
              | true =>
                have HN2 : Hid (∀ W2, Calls Uahg.prog 11 #[.float .f64 (g i), .float .f64 (g j)] W2 fun e w' => e = .returned (.bool true) ∧ w' = W2) := fun W2 => by have := numLess11 (g i) (g j) W2; rw [hw] at this; exact this
                have HP1 : Hid (posTo ltF g i (j + 1) = p) := by show _ = _; rw [HP.out, if_neg hvn, if_neg (by rw [hw]; simp)]; rfl
                clear HP hv hvn hw
                go_wp2_with fail
                go_quiet ((go_at_call 11; exact Calls.quiet_of_same (HN.out _)))
                go_wp2_with fail
                have hR1 := hR1.drewM nq
                have hR2 := hR2.drewM nq
                have hB := below_drewN hB nq
                clear c1 c2
                generalize wr.drewN nq = w9 at *
                have c1 := hR1.cell j hjn
                have c2 := hR1.cell i hlt
                go_quiet ((go_at_call 11; exact Calls.quiet_of_same (HN2.out _)))
                go_wp2
                go_roundw
                case rel => exact ⟨j + 1, by omega, by go_num, by rw [HP1.out], hR1.drewM _, hR2.drewM _, below_drewN hB _⟩
                case measure => simp [intOf]; omega
            · have HP1 : Hid (posTo ltF g i (j + 1) = p) := by show _ = _; rw [HP.out, if_neg hvn, if_neg (by omega)]; rfl
              have i3 : decide ((j : Int) < i) = false := decide_eq_false (by omega)
              clear HP hv hvn
              go_wp2_with fail
              go_quiet ((go_at_call 11; exact Calls.quiet_of_same (HN.out _)))
              go_wp2_with fail
              have hR1 := hR1.drewM nq
              have hR2 := hR2.drewM nq
              have hB := below_drewN hB nq
              clear c1 c2
              generalize wr.drewN nq = w9 at *
              have c1 := hR1.cell j hjn
              have c2 := hR1.cell i hlt
              go_quiet (fail)
              go_wp2
              go_roundw
              case rel => exact ⟨j + 1, by omega, by go_num, by rw [HP1.out], hR1.drewM _, hR2.drewM _, below_drewN hB _⟩
              case measure => simp [intOf]; omega
        · have hjn2 : j = n := by omega
          subst hjn2
          obtain ⟨k1, k2, k3⟩ := HK.out i hlt
          have HN : Hid (∀ W2, Calls Uahg.prog 12 #[.float .f64 (d' (posTo ltF g i j)), .float .f64 (g i)] W2 fun e w' => e = .returned (.bool true) ∧ w' = W2) := fun W2 => sameClass12 _ _ W2 (sameF k2 k3)
          have c1 := hR2.cell _ k1
          have c2 := hR1.cell i hlt
          clear k2 k3
          generalize posTo ltF g i j = p at *
          have i1 : (p : Int) < j := by omega
          have i2 : (i : Int) < j := by omega
          go_wp2_with fail
          go_quiet ((go_at_call 12; exact Calls.quiet_of_same (HN.out _)))
          go_wp2
          go_roundw
          case rel => exact ⟨i + 1, by omega, by go_num, hR1.drewM _, hR2.drewM _, below_drewN hB _⟩
          case measure => simp [intOf]; omega
    · go_wp2
      go_ret
      exact ⟨rfl, hB⟩

set_option maxHeartbeats 400000 in
theorem law3_nil (w : World) : Calls Uahg.prog 3 #[.slice none 0 0] w fun e w' => e = .returned (.bool true) ∧ Below w.heap.size w w' := by
  have hnil := fun W => run_neq_slice_nil_any (P := Uahg.prog) W 22 26 none 0 0 0 0 Uahg.underlying22
  simp only [Option.isNone, Bool.not_true] at hnil
  go_enter Uahg.func3, Uahg.ntmps3
  go_wp2_with fail
  refine (bytes9 none 0 0 w (by omega)).mono ?_
  rintro e w' ⟨rfl, rfl⟩
  go_wp2_with fail
  refine (zsort10_nil w).mono ?_
  rintro e w3 ⟨b', d', rfl, hb', hR3, -, hB3⟩
  clear hnil hR3
  go_wp2_with fail
  refine wp_loop_rounds 1 ?_
  rw [rounds_succ]
  go_wp2
  go_ret
  exact ⟨rfl, hB3⟩
end Go.Proofs.Youahw
