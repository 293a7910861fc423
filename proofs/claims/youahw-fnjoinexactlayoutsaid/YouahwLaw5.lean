/-
  THE LAW FnJoinExactLayout, walked.
-/
import Derived.Test.YouahwJoin
import Derived.Test.YouahwLayout
import Derived.Test.YouahwStrs2
namespace Go.Proofs.Youahw
open Go.RowKit

set_option maxHeartbeats 800000 in
theorem law5_some (a : Addr) (n cap : Nat) (sep : ByteArray) (g : Nat → ByteArray) (w : World) (hsm : sep.size ≤ maxLen) (hm : n ≤ maxLen) (hS : Strs w (some a) n g) :
    Calls Uahg.prog 5 #[.string sep, .slice (some a) n cap] w fun e w' => e = .returned (.bool true) ∧ Below w.heap.size w w' := by
  have HT := bytes16 (some a) n cap sep g w hm hsm hS
  have H16 : Hid (Calls Uahg.prog 16 #[.string sep, .slice (some a) n cap] w fun e w' => Tests True w e w') := HT
  clear HT
  unfold maxLen at hm hsm
  by_cases h1 : 1048576 < sep.size
  · go_enter Uahg.func5, Uahg.ntmps5
    go_wp2_with fail
    refine H16.out.mono ?_
    rintro e w' (⟨rfl, -, rfl⟩ | ⟨rfl, rfl⟩)
    all_goals
      go_wp2
      go_ret
      exact ⟨rfl, Below.refl _ _⟩
  by_cases h2 : 65536 < n
  · go_enter Uahg.func5, Uahg.ntmps5
    go_wp2_with fail
    refine H16.out.mono ?_
    rintro e w' (⟨rfl, -, rfl⟩ | ⟨rfl, rfl⟩)
    all_goals
      go_wp2
      go_ret
      exact ⟨rfl, Below.refl _ _⟩
  have H14 : Hid (Calls Uahg.prog 14 #[.slice (some a) n cap] w fun e w' => ∃ t : Int, e = .returned (.int .i64 t) ∧ 0 ≤ t ∧ t ≤ 4194304 ∧ (t ≤ 1048576 → t = 16 * n + sz g n) ∧ w = w') := strBytes14 (some a) n cap g w (by omega) hS
  obtain ⟨C, hCs, _, hmk⟩ := make27 n (by omega)
  obtain ⟨W2, hcp, hR, hB⟩ := copy_row 27 9 Uahg.underlying27 size9 w C n hCs (some a) cap (fun t => .string (g t)) (fun _ _ => rfl) hS
  have hnil := fun W => run_neq_slice_nil_any (P := Uahg.prog) W 27 9 (some a) n cap 0 0 Uahg.underlying27
  have HR : Hid (Row W2 w.heap.size n (fun t => .string (g t)) ∧ Below w.heap.size w W2) := ⟨hR, hB⟩
  clear hR hB hCs hS
  simp only [Option.isNone, Bool.not_false] at hnil
  go_enter Uahg.func5, Uahg.ntmps5
  go_wp2_with fail
  refine H16.out.mono ?_
  rintro e w' (⟨rfl, -, rfl⟩ | ⟨rfl, rfl⟩)
  · go_wp2_with fail
    · go_ret
      exact ⟨rfl, Below.refl _ _⟩
    all_goals
      refine H14.out.mono ?_
      rintro e w' ⟨t, rfl, ht0, ht1, ht, rfl⟩
      by_cases htb : 1048576 < (sep.size : Int) + t
      · clear ht
        go_wp2
        go_ret
        exact ⟨rfl, Below.refl _ _⟩
      · have hsz : sz g n ≤ 1048576 := by have := ht (by omega); omega
        have hjl : (joinS sep g n).size ≤ 140737488355328 := by
          have h6 := jl_len (bs sep) g n
          rw [bs_len] at h6
          have h7 : n * sep.size ≤ 65536 * 1048576 := Nat.mul_le_mul (by omega) (by omega)
          rw [joinS_size]; omega
        clear ht H14 H16
        go_wp2_with fail
        refine (zjoin17 n w.heap.size n sep g W2 (by omega) (by omega) (by omega) HR.out.1).mono ?_
        rintro e w3 ⟨rfl, hB3⟩
        have HR4 : Hid (Row w3 w.heap.size n (fun t => .string (g t))) := HR.out.1.below hB3 HR.out.1.lt
        have HB4 : Hid (Below w.heap.size w w3) := Below.step HR.out.2 HR.out.2.size hB3
        clear hB3 HR hcp hmk hnil
        go_wp2_with fail
        refine (layout18 n w.heap.size n sep g w3 (by omega) hjl HR4.out).mono ?_
        rintro e w4 ⟨rfl, hB5⟩
        have HB6 : Hid (Below w.heap.size w w4) := Below.step HB4.out HB4.out.size hB5
        clear hB5 HR4 HB4
        go_wp2
        go_ret
        exact ⟨rfl, HB6.out⟩
  · go_wp2
    go_ret
    exact ⟨rfl, Below.refl _ _⟩

theorem layout18_nil (sep : ByteArray) (w : World) :
    Calls Uahg.prog 18 #[.string (joinS sep (fun _ => ByteArray.empty) 0), .string sep, .slice none 0 0] w fun e w' => e = .returned (.bool true) ∧ Below w.heap.size w w' := by
  rw [joinS_zero]
  go_enter Uahg.func18, Uahg.ntmps18
  go_wp2_with fail
  refine wp_loop_rounds 1 ?_
  rw [rounds_succ]
  go_wp2
  go_ret
  exact ⟨rfl, Below.refl _ _⟩

set_option maxHeartbeats 800000 in
theorem law5_nil (sep : ByteArray) (w : World) (hsm : sep.size ≤ maxLen) :
    Calls Uahg.prog 5 #[.string sep, .slice none 0 0] w fun e w' => e = .returned (.bool true) ∧ Below w.heap.size w w' := by
  have H16 : Hid (Calls Uahg.prog 16 #[.string sep, .slice none 0 0] w fun e w' => Tests True w e w') := bytes16 none 0 0 sep (fun _ => ByteArray.empty) w (by omega) hsm (.inl rfl)
  have H14 : Hid (Calls Uahg.prog 14 #[.slice none 0 0] w fun e w' => ∃ t : Int, e = .returned (.int .i64 t) ∧ 0 ≤ t ∧ t ≤ 4194304 ∧ (t ≤ 1048576 → t = 16 * (0 : Nat) + sz (fun _ => ByteArray.empty) 0) ∧ w = w') := strBytes14 none 0 0 (fun _ => ByteArray.empty) w (by omega) (.inl rfl)
  unfold maxLen at hsm
  by_cases h1 : 1048576 < sep.size
  · go_enter Uahg.func5, Uahg.ntmps5
    go_wp2_with fail
    refine H16.out.mono ?_
    rintro e w' (⟨rfl, -, rfl⟩ | ⟨rfl, rfl⟩)
    all_goals
      go_wp2
      go_ret
      exact ⟨rfl, Below.refl _ _⟩
  have hnil := fun W => run_neq_slice_nil_any (P := Uahg.prog) W 27 9 none 0 0 0 0 Uahg.underlying27
  simp only [Option.isNone, Bool.not_true] at hnil
  go_enter Uahg.func5, Uahg.ntmps5
  go_wp2_with fail
  refine H16.out.mono ?_
  rintro e w' (⟨rfl, -, rfl⟩ | ⟨rfl, rfl⟩)
  · go_wp2_with fail
    all_goals
      refine H14.out.mono ?_
      rintro e w' ⟨t, rfl, ht0, ht1, -, rfl⟩
      by_cases htb : 1048576 < (sep.size : Int) + t
      · go_wp2
        go_ret
        exact ⟨rfl, Below.refl _ _⟩
      · clear H14 H16
        go_wp2_with fail
        refine (zjoin17_nil sep w (by omega)).mono ?_
        rintro e w3 ⟨rfl, hB3⟩
        have HB4 : Hid (Below w.heap.size w w3) := hB3
        clear hB3 hnil
        go_wp2_with fail
        refine (layout18_nil sep w3).mono ?_
        rintro e w4 ⟨rfl, hB5⟩
        have HB6 : Hid (Below w.heap.size w w4) := Below.step HB4.out HB4.out.size hB5
        clear hB5 HB4
        go_wp2
        go_ret
        exact ⟨rfl, HB6.out⟩
  · go_wp2
    go_ret
    exact ⟨rfl, Below.refl _ _⟩
end Go.Proofs.Youahw
