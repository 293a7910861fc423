/-
  THE WALKS OF THE REVERSE OF AN ARRAY.
-/
import Derived.Test.YouahwStrs
import Derived.Test.YouahwMake
import Derived.RegionTactic
import Derived.BigRegion
namespace Go.Proofs.Youahw
open Go.RowKit

set_option maxHeartbeats 400000 in
theorem rev27_arr (n b ba ca : Nat) (g : Nat → ByteArray) (w : World) (hn : n ≤ 1048576) (hc : w.cell? ⟨ba, 0, none⟩ = some (.iface 38 (.slice (some ⟨b, 0, none⟩) n n))) (hR : Row w b n fun t => .iface 9 (.string (g t))) :
    Calls Uahg.prog 27 #[.slice (some ⟨ba, 0, none⟩) 1 ca] w fun e w' => e = .returned (.tuple #[.iface 38 (.slice (some ⟨w.heap.size, 0, none⟩) n n), .nilIface]) ∧
      Row w' w.heap.size n (fun t => .iface 9 (.string (g (n - 1 - t)))) ∧ Below w.heap.size w w' := by
  obtain ⟨C, hCs, hC, hmk⟩ := make38 n (by omega)
  have a1 := as_arr_str2 (some ⟨b, 0, none⟩) n n
  have a2 := as_arr1 (some ⟨b, 0, none⟩) n n
  have HR : Hid (Row (w.alloc (.cells C 20)) w.heap.size n fun t => if n - t ≤ 0 then .iface 9 (.string (g (n - 1 - t))) else .nilIface) :=
    Row.new w C 20 _ _ (fun t ht => by rw [hC t ht, if_neg (by omega)])
  have hbl := hR.lt
  clear hC hCs
  go_enter Uahg.func27, Uahg.ntmps27
  go_wp2_with fail
  go_loopw [63] (fun i wr => ∃ k : Nat, k ≤ n ∧ i = .int .i64 k ∧ Row wr w.heap.size n (fun t => if n - t ≤ k then .iface 9 (.string (g (n - 1 - t))) else .nilIface) ∧ Below w.heap.size w wr) (fun i _ => n - (intOf i).toNat)
  case atStart => exact ⟨0, by omega, rfl, HR.out, (Below.refl _ _).alloc (Nat.le_refl _) _⟩
  case round =>
    obtain ⟨k, hk, rfl, hR2, hB⟩ := hrel
    clear hmk a1 a2 HR hc
    by_cases hlt : k < n
    · have c1 := (hR.below hB hbl).cell k hlt
      obtain ⟨m, hm, hm2⟩ : ∃ m : Nat, (n : Int) - (k + 1) = m ∧ k + m + 1 = n := ⟨n - 1 - k, by omega, by omega⟩
      have c2 := hR2.cell m (by omega)
      have f2 := hR2.free m
      have hmn : m < n := by omega
      have HM : Hid (k + m + 1 = n) := hm2
      clear hm2
      go_wp2
      go_roundw
      case rel =>
        refine ⟨k + 1, by omega, by go_num, ?_, hB.setCell (Nat.le_refl _) _⟩
        refine (hR2.set m hmn (.iface 9 (.string (g k)))).congr fun t ht => ?_
        have := HM.out
        by_cases e : t = m
        · rw [if_pos e, if_pos (by omega), show n - 1 - t = k by omega]
        · rw [if_neg e]
          by_cases e2 : n - t ≤ k
          · rw [if_pos e2, if_pos (by omega)]
          · rw [if_neg e2, if_neg (by omega)]
      case measure => simp [intOf]; omega
    · have HR2 : Hid (Row wr w.heap.size n (fun t => .iface 9 (.string (g (n - 1 - t))))) := hR2.congr fun t ht => by rw [if_pos (by omega)]
      clear hR2
      go_wp2
      go_ret2
      exact ⟨rfl, HR2.out, hB⟩

/-- A function that hands back a new row, and turns nothing that was there. -/
def RetRow (n : Nat) (v : Nat → Value) (w : World) (e : Ending) (w' : World) : Prop :=
  ∃ b', e = .returned (.slice (some ⟨b', 0, none⟩) n n) ∧ w.heap.size ≤ b' ∧ Row w' b' n v ∧ Below w.heap.size w w'

set_option maxHeartbeats 400000 in
theorem zrev23 (n b cap : Nat) (g : Nat → ByteArray) (w : World) (hn : n ≤ 1048576) (hR : Row w b n fun t => .string (g t)) :
    Calls Uahg.prog 23 #[.slice (some ⟨b, 0, none⟩) n cap] w fun e w' => RetRow n (fun t => .string (g (n - 1 - t))) w e w' := by
  obtain ⟨C, hCs, hC, hmk⟩ := make38 n (by omega)
  obtain ⟨D, hDs, hD, hmk2⟩ := make27 n (by omega)
  have HD : Hid (∀ j, j < n → D[j]? = some (.string ByteArray.empty)) := hD
  have HR : Hid (Row (w.alloc (.cells C 20)) w.heap.size n fun t => if t < 0 then .iface 9 (.string (g t)) else .nilIface) :=
    Row.new w C 20 _ _ (fun t ht => by rw [hC t ht, if_neg (by omega)])
  have hbl := hR.lt
  clear hC hCs hDs hD
  go_enter Uahg.func23, Uahg.ntmps23
  go_wp2_with fail
  go_loopw [4] (fun i wr => ∃ k : Nat, k ≤ n ∧ i = .int .i64 k ∧ Row wr w.heap.size n (fun t => if t < k then .iface 9 (.string (g t)) else .nilIface) ∧ Below w.heap.size w wr) (fun i _ => n - (intOf i).toNat)
  case atStart => exact ⟨0, by omega, rfl, HR.out, (Below.refl _ _).alloc (Nat.le_refl _) _⟩
  case round =>
    obtain ⟨k, hk, rfl, hR2, hB⟩ := hrel
    clear HR
    by_cases hlt : k < n
    · have c1 := (hR.below hB hbl).cell k hlt
      have c2 := hR2.cell k hlt
      have f2 := hR2.free k
      clear hmk hmk2
      go_wp2
      go_roundw
      case rel =>
        refine ⟨k + 1, by omega, by go_num, ?_, hB.setCell (Nat.le_refl _) _⟩
        refine (hR2.set k hlt (.iface 9 (.string (g k)))).congr fun t ht => ?_
        by_cases e : t = k
        · rw [if_pos e, if_pos (by omega), e]
        · rw [if_neg e]
          by_cases e2 : t < k
          · rw [if_pos e2, if_pos (by omega)]
          · rw [if_neg e2, if_neg (by omega)]
      case measure => simp [intOf]; omega
    · have hR3 : Row wr w.heap.size n (fun t => .iface 9 (.string (g t))) := hR2.congr fun t ht => by rw [if_pos (by omega)]
      have HR3 : Hid (Row (wr.alloc (.cells #[.iface 38 (.slice (some ⟨w.heap.size, 0, none⟩) n n)] 20)) w.heap.size n (fun t => .iface 9 (.string (g t)))) := hR3.alloc _
      have HB : Hid (Below w.heap.size w (wr.alloc (.cells #[.iface 38 (.slice (some ⟨w.heap.size, 0, none⟩) n n)] 20))) := hB.alloc hB.size _
      have a2 := as_arr1 (some ⟨wr.heap.size + 1, 0, none⟩) n n
      have a3 := fun t => as_str1 (g t)
      have hsz := hB.size
      clear hR2 hR3 hB hmk
      go_wp2_with fail
      refine (rev27_arr n w.heap.size wr.heap.size 1 g _ hn (by simp) HR3.out).mono ?_
      rintro e w3 ⟨rfl, hR4, hB3⟩
      have hB4 : Below w.heap.size w w3 := Below.step HB.out (by simp; omega) hB3
      have hs3 : wr.heap.size + 2 ≤ w3.heap.size := by have := hB3.size; have := hR4.lt; simp at *; omega
      have HR5 : Hid (Row (w3.alloc (.cells D 9)) w3.heap.size n fun t => if t < 0 then .string (g (n - 1 - t)) else .string ByteArray.empty) :=
        Row.new w3 D 9 _ _ (fun t ht => by rw [HD.out t ht, if_neg (by omega)])
      have HR4 : Hid (Row (w3.alloc (.cells D 9)) (wr.heap.size + 1) n fun t => .iface 9 (.string (g (n - 1 - t)))) := by simp at hR4; exact hR4.alloc _
      have HB5 : Hid (Below w.heap.size w (w3.alloc (.cells D 9))) := hB4.alloc hB4.size _
      have hs4 := hB4.size
      clear hR4 hB3 hB4 HD HB HR3
      go_wp2_with fail
      go_loopw [9] (fun i wq => ∃ k : Nat, k ≤ n ∧ i = .int .i64 k ∧ Row wq w3.heap.size n (fun t => if t < k then .string (g (n - 1 - t)) else .string ByteArray.empty) ∧ Row wq (wr.heap.size + 1) n (fun t => .iface 9 (.string (g (n - 1 - t)))) ∧ Below w.heap.size w wq) (fun i _ => n - (intOf i).toNat)
      case atStart => exact ⟨0, by omega, rfl, HR5.out, HR4.out, HB5.out⟩
      case round =>
        obtain ⟨j, hj, rfl, hR6, hR7, hB6⟩ := hrel
        clear HR5 HR4 HB5 a2 hmk2
        by_cases hlt2 : j < n
        · have c1 := hR7.cell j hlt2
          have c2 := hR6.cell j hlt2
          have f2 := hR6.free j
          go_wp2
          go_roundw
          case rel =>
            refine ⟨j + 1, by omega, by go_num, ?_, hR7.other (by simp; omega) _, hB6.setCell (by simp; omega) _⟩
            refine (hR6.set j hlt2 (.string (g (n - 1 - j)))).congr fun t ht => ?_
            by_cases e : t = j
            · rw [if_pos e, if_pos (by omega), e]
            · rw [if_neg e]
              by_cases e2 : t < j
              · rw [if_pos e2, if_pos (by omega)]
              · rw [if_neg e2, if_neg (by omega)]
          case measure => simp [intOf]; omega
        · have HR8 : Hid (RetRow n (fun t => .string (g (n - 1 - t))) w (.returned (.slice (some ⟨w3.heap.size, 0, none⟩) n n)) wr) := ⟨_, rfl, by omega, hR6.congr fun t ht => by rw [if_pos (by omega)], hB6⟩
          clear hR6 hR7 hB6
          go_wp2
          go_ret
          exact HR8.out

set_option maxHeartbeats 400000 in
theorem zrev23_nil (w : World) :
    Calls Uahg.prog 23 #[.slice none 0 0] w fun e w' => RetRow 0 (fun _ => .string ByteArray.empty) w e w' := by
  obtain ⟨C, hCs, hC, hmk⟩ := make38 0 (by omega)
  obtain ⟨D, hDs, hD, hmk2⟩ := make27 0 (by omega)
  have hk1 : ∀ W : World, (Instr.makeSlice 38 (.int .i64 0) (.int .i64 0)).run Uahg.prog W = .ok (.slice (some ⟨W.heap.size, 0, none⟩) 0 0) (W.alloc (.cells C 20)) := hmk
  have hk2 : ∀ W : World, (Instr.makeSlice 27 (.int .i64 0) (.int .i64 0)).run Uahg.prog W = .ok (.slice (some ⟨W.heap.size, 0, none⟩) 0 0) (W.alloc (.cells D 9)) := hmk2
  have HR3 : Hid (Row ((w.alloc (.cells C 20)).alloc (.cells #[.iface 38 (.slice (some ⟨w.heap.size, 0, none⟩) 0 0)] 20)) w.heap.size 0 (fun _ => .iface 9 (.string ByteArray.empty))) :=
    (Row.new w C 20 _ _ (fun t ht => by omega)).alloc _
  clear hC hCs hDs hD hmk hmk2
  go_enter Uahg.func23, Uahg.ntmps23
  go_wp2_with fail
  refine wp_loop_rounds 1 ?_
  rw [rounds_succ]
  go_wp2_with fail
  refine (rev27_arr 0 w.heap.size (w.heap.size + 1) 1 (fun _ => ByteArray.empty) _ (by omega) (by simp) HR3.out).mono ?_
  rintro e w3 ⟨rfl, hR4, hB3⟩
  have hB4 : Below w.heap.size w w3 := Below.step (((Below.refl _ _).alloc (Nat.le_refl _) _).alloc (by simp) _) (by simp; omega) hB3
  have HR5 : Hid (RetRow 0 (fun _ => .string ByteArray.empty) w (.returned (.slice (some ⟨w3.heap.size, 0, none⟩) 0 0)) (w3.alloc (.cells D 9))) :=
    ⟨_, rfl, hB4.size, Row.new w3 D 9 _ _ (fun t ht => by omega), hB4.alloc hB4.size _⟩
  have a2 := as_arr1 (some ⟨w.heap.size + 1 + 1, 0, none⟩) 0 0
  clear hR4 hB3 hB4 hk1 HR3
  go_wp2_with fail
  refine wp_loop_rounds 1 ?_
  rw [rounds_succ]
  go_wp2
  go_ret
  exact HR5.out

set_option maxHeartbeats 400000 in
/-- Behind the reverse: the comparing loop. -/
theorem law8_some (a : Addr) (n cap : Nat) (g : Nat → ByteArray) (w : World) (hm : n ≤ maxLen) (hS : Strs w (some a) n g) :
    Calls Uahg.prog 8 #[.slice (some a) n cap] w fun e w' => e = .returned (.bool true) ∧ Below w.heap.size w w' := by
  by_cases hbig : 65536 < n
  · go_enter Uahg.func8, Uahg.ntmps8
    go_wp2_with fail
    refine (bytes22 (some a) n cap g w hm hS).mono ?_
    rintro e w' (⟨rfl, hsum, rfl⟩ | ⟨rfl, rfl⟩)
    all_goals
      go_wp2
      go_ret
      exact ⟨rfl, Below.refl _ _⟩
  obtain ⟨C, hCs, _, hmk⟩ := make27 n (by omega)
  obtain ⟨W2, hcp, hR, hB⟩ := copy_row 27 9 Uahg.underlying27 size9 w C n hCs (some a) cap (fun t => .string (g t)) (fun _ _ => rfl) hS
  have hnil := fun W => run_neq_slice_nil_any (P := Uahg.prog) W 27 9 (some a) n cap 0 0 Uahg.underlying27
  have HR : Hid (Row W2 w.heap.size n (fun t => .string (g t)) ∧ Below w.heap.size w W2) := ⟨hR, hB⟩
  have HS : Hid (Strs w (some a) n g) := hS
  have HM : Hid (n ≤ maxLen) := hm
  clear hR hB hCs hS hm
  simp only [Option.isNone, Bool.not_false] at hnil
  go_enter Uahg.func8, Uahg.ntmps8
  go_wp2_with fail
  refine (bytes22 (some a) n cap g w HM.out HS.out).mono ?_
  rintro e w' (⟨rfl, hsum, rfl⟩ | ⟨rfl, rfl⟩)
  · clear hsum
    go_wp2_with fail
    refine (strBytes14 (some a) n cap g w (by omega) HS.out).mono ?_
    rintro e w' ⟨t, rfl, ht0, ht1, -, rfl⟩
    by_cases htb : 1048576 < t
    · go_wp2
      go_ret
      exact ⟨rfl, Below.refl _ _⟩
    · go_wp2_with fail
      refine (zrev23 n w.heap.size n g W2 (by omega) HR.out.1).mono ?_
      rintro e w3 ⟨b', rfl, hb', hR3, hB3⟩
      have hlt0 := HR.out.1.lt
      have HR4 : Hid (Row w3 w.heap.size n (fun t => .string (g t)) ∧ Row w3 b' n (fun t => .string (g (n - 1 - t))) ∧ Below w.heap.size w w3) :=
        ⟨HR.out.1.below hB3 hlt0, hR3, Below.step HR.out.2 HR.out.2.size hB3⟩
      clear hR3 hB3 HR HS HM hcp hmk hnil
      go_wp2_with fail
      go_loopw [6] (fun i wr => ∃ k : Nat, k ≤ n ∧ i = .int .i64 k ∧ Row wr w.heap.size n (fun t => .string (g t)) ∧ Row wr b' n (fun t => .string (g (n - 1 - t))) ∧ Below w.heap.size w wr) (fun i _ => n - (intOf i).toNat)
      case atStart => exact ⟨0, by omega, rfl, HR4.out.1, HR4.out.2.1, HR4.out.2.2⟩
      case round =>
        obtain ⟨k, hk, rfl, hR1, hR2, hB⟩ := hrel
        by_cases hlt : k < n
        · obtain ⟨m, hm, hm2⟩ : ∃ m : Nat, (n : Int) - 1 - k = m ∧ k + m + 1 = n := ⟨n - 1 - k, by omega, by omega⟩
          have c1 := hR2.cell k hlt
          have c2 := hR1.cell m (by omega)
          rw [show n - 1 - k = m by omega] at c1
          have b2 : m < n := by omega
          have hz : (n : Int) - 1 - k < n := by omega
          have hz0 : 0 ≤ (n : Int) - 1 - k := by omega
          have hi0 : (k : Int) < n := by omega
          clear hm2
          go_wp2_with fail
          go_region
          go_wp2
          go_roundw
          case rel => exact ⟨k + 1, by omega, by go_num, hR1.drew, hR2.drew, hB.drew⟩
          case measure => simp [intOf]; omega
        · go_wp2
          go_ret
          exact ⟨rfl, hB⟩
  · go_wp2
    go_ret
    exact ⟨rfl, Below.refl _ _⟩

set_option maxHeartbeats 400000 in
theorem law8_nil (w : World) : Calls Uahg.prog 8 #[.slice none 0 0] w fun e w' => e = .returned (.bool true) ∧ Below w.heap.size w w' := by
  have hnil := fun W => run_neq_slice_nil_any (P := Uahg.prog) W 27 9 none 0 0 0 0 Uahg.underlying27
  simp only [Option.isNone, Bool.not_true] at hnil
  go_enter Uahg.func8, Uahg.ntmps8
  go_wp2_with fail
  refine (bytes22 none 0 0 (fun _ => ByteArray.empty) w (by omega) (.inl rfl)).mono ?_
  rintro e w' (⟨rfl, hsum, rfl⟩ | ⟨rfl, rfl⟩)
  · clear hsum
    go_wp2_with fail
    refine (strBytes14 none 0 0 (fun _ => ByteArray.empty) w (by omega) (.inl rfl)).mono ?_
    rintro e w' ⟨t, rfl, ht0, ht1, -, rfl⟩
    by_cases htb : 1048576 < t
    · go_wp2
      go_ret
      exact ⟨rfl, Below.refl _ _⟩
    · go_wp2_with fail
      refine (zrev23_nil w).mono ?_
      rintro e w3 ⟨b', rfl, hb', hR3, hB3⟩
      clear hnil hR3
      go_wp2_with fail
      refine wp_loop_rounds 1 ?_
      rw [rounds_succ]
      go_wp2
      go_ret
      exact ⟨rfl, hB3⟩
  · go_wp2
    go_ret
    exact ⟨rfl, Below.refl _ _⟩
end Go.Proofs.Youahw
