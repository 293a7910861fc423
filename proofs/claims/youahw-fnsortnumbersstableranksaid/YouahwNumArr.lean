/-
  toArrayNum, jpfSort, ZZsortNums OVER NUMBERS, walked.
-/
import Derived.Test.YouahwNumSort
namespace Go.Proofs.Youahw
open Go.RowKit
attribute [local go_sem] run_store_float

set_option maxHeartbeats 400000 in
/-- toArrayNum of an array of numbers: those numbers, in a new row. -/
theorem num28_nums (n b : Nat) (g : Nat → Nat) (w : World) (hn : n ≤ 1048576) (hR : Row w b n fun t => .iface 26 (.float .f64 (g t))) :
    Calls Uahg.prog 28 #[.iface 38 (.slice (some ⟨b, 0, none⟩) n n)] w fun e w' => e = .returned (.tuple #[.slice (some ⟨w.heap.size, 0, none⟩) n n, .bool true]) ∧ (Row w' w.heap.size n fun t => .float .f64 (g t)) ∧ Below w.heap.size w w' := by
  obtain ⟨C, hCs, hC, hmk⟩ := make22 n (by omega)
  have a1 := as_arr2 (some ⟨b, 0, none⟩) n n
  have a2 := fun t => as_num2 (g t)
  have HR : Hid (Row (w.alloc (.cells C 26)) w.heap.size n fun t => if t < 0 then .float .f64 (g t) else .float .f64 0) :=
    Row.new w C 26 _ _ (fun t ht => by rw [hC t ht, if_neg (by omega)])
  have hbl := hR.lt
  clear hC hCs
  go_enter Uahg.func28, Uahg.ntmps28
  go_wp2_with fail
  go_loopw [22] (fun i wr => ∃ k : Nat, k ≤ n ∧ i = .int .i64 k ∧ Row wr w.heap.size n (fun t => if t < k then .float .f64 (g t) else .float .f64 0) ∧ Below w.heap.size w wr) (fun i _ => n - (intOf i).toNat)
  case atStart => exact ⟨0, by omega, rfl, HR.out, (Below.refl _ _).alloc (Nat.le_refl _) _⟩
  case round =>
    obtain ⟨k, hk, rfl, hR2, hB⟩ := hrel
    clear hmk a1 HR
    by_cases hlt : k < n
    · have c1 := (hR.below hB hbl).cell k hlt
      have c2 := hR2.cell k hlt
      have f2 := hR2.free k
      go_wp2
      go_roundw
      case rel =>
        refine ⟨k + 1, by omega, by go_num, ?_, hB.setCell (Nat.le_refl _) _⟩
        refine (hR2.set k hlt (.float .f64 (g k))).congr fun t ht => ?_
        by_cases e : t = k
        · rw [if_pos e, if_pos (by omega), e]
        · rw [if_neg e]
          by_cases e2 : t < k
          · rw [if_pos e2, if_pos (by omega)]
          · rw [if_neg e2, if_neg (by omega)]
      case measure => simp [intOf]; omega
    · have HR2 : Hid (Row wr w.heap.size n (fun t => .float .f64 (g t))) := hR2.congr fun t ht => by rw [if_pos (by omega)]
      clear hR2
      go_wp2
      go_ret2
      exact ⟨rfl, HR2.out, hB⟩

set_option maxHeartbeats 1000000 in
theorem sort24_nums (n b ba ca : Nat) (g : Nat → Nat) (w : World) (hn : n ≤ 65536) (hc : w.cell? ⟨ba, 0, none⟩ = some (.iface 38 (.slice (some ⟨b, 0, none⟩) n n))) (hR : Row w b n fun t => .iface 26 (.float .f64 (g t))) :
    Calls Uahg.prog 24 #[.slice (some ⟨ba, 0, none⟩) 1 ca] w fun e w' => RetArr (fun x => .iface 26 (.float .f64 x)) n (fun d' => Mix 0 n n g d' ∧ Sorted ltF 0 n d') w e w' := by
  go_enter Uahg.func24, Uahg.ntmps24
  go_wp2_with fail
  refine (num28_nums n b g w (by omega) hR).mono ?_
  rintro e w3 ⟨rfl, hR3, hB3⟩
  have hz3 : w.heap.size < w3.heap.size := hR3.lt
  have HB3 : Hid (Below w.heap.size w w3) := hB3
  have HR3 : Hid (Row w3 w.heap.size n fun t => .float .f64 (g t)) := hR3
  clear hR hR3 hB3 hc
  go_wp2_with fail
  refine (stableF w.heap.size n n g w3 hn HR3.out).mono ?_
  rintro e w4 ⟨rfl, d', hSt, hMx, hSo⟩
  have hz4 := hSt.only.size
  have HB4 : Hid (Below w.heap.size w w4) := Below.only HB3.out hSt.only (by omega) (by omega)
  have hR4 := hSt.row
  have HM : Hid (Mix 0 n n g d' ∧ Sorted ltF 0 n d') := ⟨hMx, hSo⟩
  obtain ⟨C, hCs, hC, hmk⟩ := make38 n (by omega)
  have HRn : Hid (Row (w4.alloc (.cells C 20)) w4.heap.size n fun t => if t < 0 then .iface 26 (.float .f64 (d' t)) else .nilIface) :=
    Row.new w4 C 20 _ _ (fun t ht => by rw [hC t ht, if_neg (by omega)])
  have HR4 : Hid (Row (w4.alloc (.cells C 20)) w.heap.size n fun t => .float .f64 (d' t)) := hR4.alloc _
  have HB5 : Hid (Below w.heap.size w (w4.alloc (.cells C 20))) := HB4.out.alloc HB4.out.size _
  clear hSt hMx hSo hCs hC hR4 HB3 HR3 HB4
  go_wp2_with fail
  clear hmk
  go_loopw [33] (fun i wr => ∃ k : Nat, k ≤ n ∧ i = .int .i64 k ∧ Row wr w4.heap.size n (fun t => if t < k then .iface 26 (.float .f64 (d' t)) else .nilIface) ∧ Row wr w.heap.size n (fun t => .float .f64 (d' t)) ∧ Below w.heap.size w wr) (fun i _ => n - (intOf i).toNat)
  case atStart => exact ⟨0, by omega, rfl, HRn.out, HR4.out, HB5.out⟩
  case round =>
    obtain ⟨k, hk, rfl, hR5, hR6, hB6⟩ := hrel
    clear HRn HR4 HB5
    by_cases hlt : k < n
    · have c1 := hR6.cell k hlt
      have c2 := hR5.cell k hlt
      have f2 := hR5.free k
      go_wp2
      go_roundw
      case rel =>
        refine ⟨k + 1, by omega, by go_num, ?_, hR6.other (by simp; omega) _, hB6.setCell (by simp; omega) _⟩
        refine (hR5.set k hlt (.iface 26 (.float .f64 (d' k)))).congr fun t ht => ?_
        by_cases e : t = k
        · rw [if_pos e, if_pos (by omega), e]
        · rw [if_neg e]
          by_cases e2 : t < k
          · rw [if_pos e2, if_pos (by omega)]
          · rw [if_neg e2, if_neg (by omega)]
      case measure => simp [intOf]; omega
    · have HZ : Hid (RetArr (fun x => .iface 26 (.float .f64 x)) n (fun d' => Mix 0 n n g d' ∧ Sorted ltF 0 n d') w (.returned (.tuple #[.iface 38 (.slice (some ⟨w4.heap.size, 0, none⟩) n n), .nilIface])) wr) :=
        ⟨_, d', rfl, by omega, hR5.congr fun t ht => by rw [if_pos (by omega)], HM.out, hB6⟩
      clear hR5 hR6 hB6
      go_wp2
      go_ret2
      exact HZ.out

set_option maxHeartbeats 1000000 in
theorem zsort10 (n b cap : Nat) (g : Nat → Nat) (w : World) (hn : n ≤ 65536) (hR : Row w b n fun t => .float .f64 (g t)) :
    Calls Uahg.prog 10 #[.slice (some ⟨b, 0, none⟩) n cap] w fun e w' => RetSl (Value.float .f64) n (fun d' => Mix 0 n n g d' ∧ Sorted ltF 0 n d') w e w' := by
  obtain ⟨C, hCs, hC, hmk⟩ := make38 n (by omega)
  obtain ⟨D, hDs, hD, hmk2⟩ := make22 n (by omega)
  have HD : Hid (∀ j, j < n → D[j]? = some (.float .f64 0)) := hD
  have HR : Hid (Row (w.alloc (.cells C 20)) w.heap.size n fun t => if t < 0 then .iface 26 (.float .f64 (g t)) else .nilIface) :=
    Row.new w C 20 _ _ (fun t ht => by rw [hC t ht, if_neg (by omega)])
  have hbl := hR.lt
  clear hC hCs hDs hD
  go_enter Uahg.func10, Uahg.ntmps10
  go_wp2_with fail
  go_loopw [4] (fun i wr => ∃ k : Nat, k ≤ n ∧ i = .int .i64 k ∧ Row wr w.heap.size n (fun t => if t < k then .iface 26 (.float .f64 (g t)) else .nilIface) ∧ Below w.heap.size w wr) (fun i _ => n - (intOf i).toNat)
  case atStart => exact ⟨0, by omega, rfl, HR.out, (Below.refl _ _).alloc (Nat.le_refl _) _⟩
  case round =>
    obtain ⟨k, hk, rfl, hR2, hB⟩ := hrel
    clear HR
    by_cases hlt : k < n
    · have c1 := (hR.below hB hbl).cell k hlt
      have c2 := hR2.cell k hlt
      have f2 := hR2.free k
      clear hmk hmk2
      go_wp2
      go_roundw
      case rel =>
        refine ⟨k + 1, by omega, by go_num, ?_, hB.setCell (Nat.le_refl _) _⟩
        refine (hR2.set k hlt (.iface 26 (.float .f64 (g k)))).congr fun t ht => ?_
        by_cases e : t = k
        · rw [if_pos e, if_pos (by omega), e]
        · rw [if_neg e]
          by_cases e2 : t < k
          · rw [if_pos e2, if_pos (by omega)]
          · rw [if_neg e2, if_neg (by omega)]
      case measure => simp [intOf]; omega
    · have hR3 : Row wr w.heap.size n (fun t => .iface 26 (.float .f64 (g t))) := hR2.congr fun t ht => by rw [if_pos (by omega)]
      have HR3 : Hid (Row (wr.alloc (.cells #[.iface 38 (.slice (some ⟨w.heap.size, 0, none⟩) n n)] 20)) w.heap.size n (fun t => .iface 26 (.float .f64 (g t)))) := hR3.alloc _
      have HB : Hid (Below w.heap.size w (wr.alloc (.cells #[.iface 38 (.slice (some ⟨w.heap.size, 0, none⟩) n n)] 20))) := hB.alloc hB.size _
      have hsz := hB.size
      clear hR2 hR3 hB hmk
      go_wp2_with fail
      refine (sort24_nums n w.heap.size wr.heap.size 1 g _ hn (by simp) HR3.out).mono ?_
      rintro e w3 ⟨b4, d', rfl, hb4, hR4, hRd, hB3⟩
      simp only [World.size_alloc] at hb4
      have hlt4 := hR4.lt
      have hB4 : Below w.heap.size w w3 := Below.step HB.out (by simp; omega) hB3
      have HR5 : Hid (Row (w3.alloc (.cells D 26)) w3.heap.size n fun t => if t < 0 then .float .f64 (d' t) else .float .f64 0) :=
        Row.new w3 D 26 _ _ (fun t ht => by rw [HD.out t ht, if_neg (by omega)])
      have HR4 : Hid (Row (w3.alloc (.cells D 26)) b4 n fun t => .iface 26 (.float .f64 (d' t))) := hR4.alloc _
      have HB5 : Hid (Below w.heap.size w (w3.alloc (.cells D 26))) := hB4.alloc hB4.size _
      have HRd : Hid (Mix 0 n n g d' ∧ Sorted ltF 0 n d') := hRd
      have hs4 := hB4.size
      have a2 := as_arr1 (some ⟨b4, 0, none⟩) n n
      have a3 := fun t => as_num1 (d' t)
      clear hR4 hB3 hB4 HD HB HR3 hRd
      go_wp2_with fail
      clear a2 hmk2
      go_loopw [9] (fun i wr => ∃ k : Nat, k ≤ n ∧ i = .int .i64 k ∧ Row wr w3.heap.size n (fun t => if t < k then .float .f64 (d' t) else .float .f64 0) ∧ Row wr b4 n (fun t => .iface 26 (.float .f64 (d' t))) ∧ Below w.heap.size w wr) (fun i _ => n - (intOf i).toNat)
      case atStart => exact ⟨0, by omega, rfl, HR5.out, HR4.out, HB5.out⟩
      case round =>
        obtain ⟨j, hj, rfl, hR6, hR7, hB6⟩ := hrel
        clear HR5 HR4 HB5
        by_cases hlt2 : j < n
        · have c1 := hR7.cell j hlt2
          have c2 := hR6.cell j hlt2
          have f2 := hR6.free j
          go_wp2
          go_roundw
          case rel =>
            refine ⟨j + 1, by omega, by go_num, ?_, hR7.other (by simp; omega) _, hB6.setCell (by simp; omega) _⟩
            refine (hR6.set j hlt2 (.float .f64 (d' j))).congr fun t ht => ?_
            by_cases e : t = j
            · rw [if_pos e, if_pos (by omega), e]
            · rw [if_neg e]
              by_cases e2 : t < j
              · rw [if_pos e2, if_pos (by omega)]
              · rw [if_neg e2, if_neg (by omega)]
          case measure => simp [intOf]; omega
        · have HZ : Hid (RetSl (Value.float .f64) n (fun d' => Mix 0 n n g d' ∧ Sorted ltF 0 n d') w (.returned (.slice (some ⟨w3.heap.size, 0, none⟩) n n)) wr) :=
            ⟨_, d', rfl, by omega, hR6.congr fun t ht => by rw [if_pos (by omega)], HRd.out, hB6⟩
          clear hR6 hR7 hB6
          go_wp2
          go_ret
          exact HZ.out

set_option maxHeartbeats 1000000 in
theorem zsort10_nil (w : World) : Calls Uahg.prog 10 #[.slice none 0 0] w fun e w' => RetSl (Value.float .f64) 0 (fun _ => True) w e w' := by
  obtain ⟨C, hCs, hC, hmk⟩ := make38 0 (by omega)
  obtain ⟨D, hDs, hD, hmk2⟩ := make22 0 (by omega)
  have hk1 : ∀ W : World, (Instr.makeSlice 38 (.int .i64 0) (.int .i64 0)).run Uahg.prog W = .ok (.slice (some ⟨W.heap.size, 0, none⟩) 0 0) (W.alloc (.cells C 20)) := hmk
  have hk2 : ∀ W : World, (Instr.makeSlice 22 (.int .i64 0) (.int .i64 0)).run Uahg.prog W = .ok (.slice (some ⟨W.heap.size, 0, none⟩) 0 0) (W.alloc (.cells D 26)) := hmk2
  clear hC hCs hDs hD hmk hmk2
  go_enter Uahg.func10, Uahg.ntmps10
  go_wp2_with fail
  refine wp_loop_rounds 1 ?_
  rw [rounds_succ]
  go_wp2_with fail
  refine (sort24_empty (fun x : Nat => .iface 26 (.float .f64 x)) (fun _ => True) (fun _ => 0) trivial w.heap.size (w.heap.size + 1) 1 _ (by simp)).mono ?_
  rintro e w3 ⟨b4, d', rfl, hb4, hR4, hRd, hB3⟩
  have hB4 : Below w.heap.size w w3 := Below.step (((Below.refl _ _).alloc (Nat.le_refl _) _).alloc (by simp) _) (by simp; omega) hB3
  have HZ : Hid (RetSl (Value.float .f64) 0 (fun _ => True) w (.returned (.slice (some ⟨w3.heap.size, 0, none⟩) 0 0)) (w3.alloc (.cells D 26))) :=
    ⟨_, fun _ => 0, rfl, hB4.size, Row.new w3 D 26 0 _ (fun t ht => by omega), trivial, hB4.alloc hB4.size _⟩
  have a2 := as_arr1 (some ⟨b4, 0, none⟩) 0 0
  clear hR4 hB3 hB4 hk1 hRd hb4
  go_wp2_with fail
  refine wp_loop_rounds 1 ?_
  rw [rounds_succ]
  go_wp2
  go_ret
  exact HZ.out
end Go.Proofs.Youahw
