/-
  THE LAW FnSortStringsStableRank, walked.
-/
import Derived.Test.YouahwStrArr
import Derived.Test.YouahwStrs
import Derived.BigQuiet
import Derived.Deep.QuietTactic
namespace Go.Proofs.Youahw
open Go.RowKit

theorem Row.drewN {w : World} {b n : Nat} {g : Nat → Value} (h : Row w b n g) (q : Nat) : Row (w.drewN q) b n g := ⟨h.lt, h.cell, h.free⟩
theorem Below.drewN' {B : Nat} {u w : World} (h : Below B u w) (q : Nat) : Below B u (w.drewN q) := ⟨h.os, h.tape, h.output, h.size, h.block⟩

set_option maxHeartbeats 1000000 in
theorem law4_some (a : Addr) (n cap : Nat) (g : Nat → ByteArray) (w : World) (hm : n ≤ maxLen) (hS : Strs w (some a) n g) :
    Calls Uahg.prog 4 #[.slice (some a) n cap] w fun e w' => e = .returned (.bool true) ∧ Below w.heap.size w w' := by
  by_cases hbig : 4096 < n
  · go_enter Uahg.func4, Uahg.ntmps4
    go_wp2_with fail
    refine (bytes13 (some a) n cap g w hm hS).mono ?_
    rintro e w' (⟨rfl, hsum, rfl⟩ | ⟨rfl, rfl⟩)
    all_goals
      go_wp2
      go_ret
      exact ⟨rfl, Below.refl _ _⟩
  obtain ⟨C, hCs, _, hmk⟩ := make27 n (by omega)
  obtain ⟨W2, hcp, hR, hB⟩ := copy_row 27 9 Uahg.underlying27 size9 w C n hCs (some a) cap (fun t => .string (g t)) (fun _ _ => rfl) hS
  have hnil := fun W => run_neq_slice_nil_any (P := Uahg.prog) W 27 9 (some a) n cap 0 0 Uahg.underlying27
  have HR : Hid (Row W2 w.heap.size n (fun t => .string (g t)) ∧ Below w.heap.size w W2) := ⟨hR, hB⟩
  have HS : Hid (Strs w (some a) n g) := hS
  have HM : Hid (n ≤ maxLen) := hm
  clear hR hB hCs hS hm
  simp only [Option.isNone, Bool.not_false] at hnil
  go_enter Uahg.func4, Uahg.ntmps4
  go_wp2_with fail
  refine (bytes13 (some a) n cap g w HM.out HS.out).mono ?_
  rintro e w' (⟨rfl, hsum, rfl⟩ | ⟨rfl, rfl⟩)
  · clear hsum
    go_wp2_with fail
    refine (strBytes14 (some a) n cap g w (by omega) HS.out).mono ?_
    rintro e w' ⟨t, rfl, ht0, ht1, -, rfl⟩
    by_cases htb : 1048576 < t
    · go_wp2
      go_ret
      exact ⟨rfl, Below.refl _ _⟩
    · go_wp2_with fail
      refine (zsort15 n w.heap.size n g W2 (by omega) HR.out.1).mono ?_
      rintro e w3 ⟨b', d', rfl, hb', hR3, hRd, hB3⟩
      have hlt0 := HR.out.1.lt
      have HR4 : Hid (Row w3 w.heap.size n (fun t => .string (g t)) ∧ Row w3 b' n (fun t => .string (d' t)) ∧ Below w.heap.size w w3) :=
        ⟨HR.out.1.below hB3 hlt0, hR3, Below.step HR.out.2 HR.out.2.size hB3⟩
      have HK : Hid (∀ i, i < n → posTo ltS g i n < n ∧ ltS (d' (posTo ltS g i n)) (g i) = false ∧ ltS (g i) (d' (posTo ltS g i n)) = false) := fun i hi => rank ordS hRd.1.bag hRd.2 hi
      clear hR3 hB3 HR HS HM hcp hmk hnil hRd
      go_wp2_with fail
      go_loopw [5] (fun vi wr => ∃ i : Nat, i ≤ n ∧ vi = .int .i64 i ∧ Row wr w.heap.size n (fun t => .string (g t)) ∧ Row wr b' n (fun t => .string (d' t)) ∧ Below w.heap.size w wr) (fun vi _ => n - (intOf vi).toNat)
      case atStart => exact ⟨0, by omega, rfl, HR4.out.1, HR4.out.2.1, HR4.out.2.2⟩
      case round =>
        obtain ⟨i, hi, rfl, hR1, hR2, hB⟩ := hrel
        have HS : Hid (Row wr w.heap.size n (fun t => .string (g t)) ∧ Row wr b' n (fun t => .string (d' t)) ∧ Below w.heap.size w wr) := ⟨hR1, hR2, hB⟩
        clear HR4
        by_cases hlt : i < n
        · clear hR1 hR2 hB
          go_wp2_with fail
          go_loopw [6, 7] (fun vp vj wr => ∃ j : Nat, j ≤ n ∧ vj = .int .i64 j ∧ vp = .int .i64 (posTo ltS g i j : Nat) ∧ Row wr w.heap.size n (fun t => .string (g t)) ∧ Row wr b' n (fun t => .string (d' t)) ∧ Below w.heap.size w wr) (fun _ vj _ => n - (intOf vj).toNat)
          case atStart => exact ⟨0, by omega, rfl, rfl, HS.out.1, HS.out.2.1, HS.out.2.2⟩
          case round =>
            obtain ⟨j, hj, rfl, rfl, hR1, hR2, hB⟩ := hrel
            clear HS
            have hple := posTo_le ltS g i j
            by_cases hjn : j < n
            · have c1 := hR1.cell j hjn
              have c2 := hR1.cell i hlt
              have HP : Hid (posTo ltS g i (j + 1) = posTo ltS g i j + (if ltS (g j) (g i) = true then 1 else if j < i ∧ ltS (g i) (g j) = false then 1 else 0)) := rfl
              have i1 : (j : Int) < n := by omega
              have i2 : (i : Int) < n := by omega
              generalize posTo ltS g i j = p at *
              by_cases hv : ltS (g j) (g i) = true
              · have hv' : Op.bytesLess (g j).toList (g i).toList = true := hv
                have HP1 : Hid (posTo ltS g i (j + 1) = p + 1) := by show _ = _; rw [HP.out, if_pos hv]
                clear HP hv
                go_wp2_with fail
                go_region
                go_wp2
                go_roundw
                case rel => exact ⟨j + 1, by omega, by go_num, by rw [HP1.out]; go_num, hR1.drew, hR2.drew, hB.drew⟩
                case measure => simp [intOf]; omega
              · have hv2 : ltS (g j) (g i) = false := by simpa using hv
                have hv' : Op.bytesLess (g j).toList (g i).toList = false := hv2
                have heq := eqS hv2
                by_cases hji : j < i
                · cases hw : ltS (g i) (g j) with
                  | false =>
                    rw [hw] at heq
                    have HP1 : Hid (posTo ltS g i (j + 1) = p + 1) := by show _ = _; rw [HP.out, if_neg hv, if_pos ⟨hji, hw⟩]
                    have i3 : (j : Int) < i := by omega
                    clear HP hv hv2 hw
                    go_wp2_with fail
                    go_region
                    go_wp2_with fail
                    go_quiet (fail)
                    go_wp2
                    go_roundw
                    case rel => exact ⟨j + 1, by omega, by go_num, by rw [HP1.out]; go_num, hR1.drewN _, hR2.drewN _, Below.drewN' hB _⟩
                    case measure => simp [intOf]; omega
                  | true =>
                    rw [hw] at heq
                    have HP1 : Hid (posTo ltS g i (j + 1) = p) := by show _ = _; rw [HP.out, if_neg hv, if_neg (by rw [hw]; simp)]; rfl
                    have i3 : (j : Int) < i := by omega
                    clear HP hv hv2 hw
                    go_wp2_with fail
                    go_region
                    go_wp2_with fail
                    go_quiet (fail)
                    go_wp2
                    go_roundw
                    case rel => exact ⟨j + 1, by omega, by go_num, by rw [HP1.out], hR1.drewN _, hR2.drewN _, Below.drewN' hB _⟩
                    case measure => simp [intOf]; omega
                · have HP1 : Hid (posTo ltS g i (j + 1) = p) := by show _ = _; rw [HP.out, if_neg hv, if_neg (by omega)]; rfl
                  have i3 : decide ((j : Int) < i) = false := decide_eq_false (by omega)
                  clear HP hv hv2 heq
                  go_wp2_with fail
                  go_region
                  go_wp2_with fail
                  go_quiet (fail)
                  go_wp2
                  go_roundw
                  case rel => exact ⟨j + 1, by omega, by go_num, by rw [HP1.out], hR1.drewN _, hR2.drewN _, Below.drewN' hB _⟩
                  case measure => simp [intOf]; omega
            · have hjn2 : j = n := by omega
              subst hjn2
              obtain ⟨k1, k2, k3⟩ := HK.out i hlt
              have heq := eqS k2
              rw [k3] at heq
              have c1 := hR2.cell _ k1
              have c2 := hR1.cell i hlt
              clear k2 k3
              generalize posTo ltS g i j = p at *
              have i1 : (p : Int) < j := by omega
              have i2 : (i : Int) < j := by omega
              go_wp2_with fail
              go_region
              go_wp2
              go_roundw
              case rel => exact ⟨i + 1, by omega, by go_num, hR1.drew, hR2.drew, hB.drew⟩
              case measure => simp [intOf]; omega
        · go_wp2
          go_ret
          exact ⟨rfl, hB⟩
  · go_wp2
    go_ret
    exact ⟨rfl, Below.refl _ _⟩

set_option maxHeartbeats 400000 in
theorem law4_nil (w : World) : Calls Uahg.prog 4 #[.slice none 0 0] w fun e w' => e = .returned (.bool true) ∧ Below w.heap.size w w' := by
  have hnil := fun W => run_neq_slice_nil_any (P := Uahg.prog) W 27 9 none 0 0 0 0 Uahg.underlying27
  simp only [Option.isNone, Bool.not_true] at hnil
  go_enter Uahg.func4, Uahg.ntmps4
  go_wp2_with fail
  refine (bytes13 none 0 0 (fun _ => ByteArray.empty) w (by omega) (.inl rfl)).mono ?_
  rintro e w' (⟨rfl, hsum, rfl⟩ | ⟨rfl, rfl⟩)
  · clear hsum
    go_wp2_with fail
    refine (strBytes14 none 0 0 (fun _ => ByteArray.empty) w (by omega) (.inl rfl)).mono ?_
    rintro e w' ⟨t, rfl, ht0, ht1, -, rfl⟩
    by_cases htb : 1048576 < t
    · go_wp2
      go_ret
      exact ⟨rfl, Below.refl _ _⟩
    · go_wp2_with fail
      refine (zsort15_nil w).mono ?_
      rintro e w3 ⟨b', d', rfl, hb', hR3, -, hB3⟩
      clear hnil hR3
      go_wp2_with fail
      refine wp_loop_rounds 1 ?_
      rw [rounds_succ]
      go_wp2
      go_ret
      exact ⟨rfl, hB3⟩
  · go_wp2
    go_ret
    exact ⟨rfl, Below.refl _ _⟩
end Go.Proofs.Youahw
