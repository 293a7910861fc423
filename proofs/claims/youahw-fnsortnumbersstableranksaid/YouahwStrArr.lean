/-
  toArrayNum, toArrayStr, jpfSort, ZZsortStrs OVER STRINGS, walked.
-/
import Derived.Test.YouahwStrSort
import Derived.Test.YouahwMake
import Derived.Test.YouahwAssert
import Derived.Test.YouahwAssert2
namespace Go.Proofs.Youahw
open Go.RowKit

set_option maxHeartbeats 400000 in
/-- toArrayNum of an array of strings that is not empty: no. -/
theorem num28_strs (n b : Nat) (g : Nat → ByteArray) (w : World) (hn0 : 0 < n) (hn : n ≤ 1048576) (hR : Row w b n fun t => .iface 9 (.string (g t))) :
    Calls Uahg.prog 28 #[.iface 38 (.slice (some ⟨b, 0, none⟩) n n)] w fun e w' => e = .returned (.tuple #[.slice none 0 0, .bool false]) ∧ Below w.heap.size w w' := by
  obtain ⟨C, hCs, hC, hmk⟩ := make22 n (by omega)
  have a1 := as_arr2 (some ⟨b, 0, none⟩) n n
  have a2 := as_str_num2 (g 0)
  have c1 := hR.cell 0 hn0
  have hbl := hR.lt
  have i1 : (0 : Int) < n := by omega
  clear hC hCs hR
  go_enter Uahg.func28, Uahg.ntmps28
  go_wp2_with fail
  refine wp_loop_rounds 1 ?_
  rw [rounds_succ]
  go_wp2
  go_ret2
  exact ⟨rfl, (Below.refl _ _).alloc (Nat.le_refl _) _⟩

set_option maxHeartbeats 400000 in
/-- toArrayNum of an empty array: an empty slice. -/
theorem num28_empty (b : Nat) (w : World) :
    Calls Uahg.prog 28 #[.iface 38 (.slice (some ⟨b, 0, none⟩) 0 0)] w fun e w' => e = .returned (.tuple #[.slice (some ⟨w.heap.size, 0, none⟩) 0 0, .bool true]) ∧ (∀ v, Row w' w.heap.size 0 v) ∧ Below w.heap.size w w' := by
  obtain ⟨C, hCs, hC, hmk⟩ := make22 0 (by omega)
  have hk1 : ∀ W : World, (Instr.makeSlice 22 (.int .i64 0) (.int .i64 0)).run Uahg.prog W = .ok (.slice (some ⟨W.heap.size, 0, none⟩) 0 0) (W.alloc (.cells C 26)) := hmk
  have a1 := as_arr2 (some ⟨b, 0, none⟩) 0 0
  have HR : Hid (∀ v, Row (w.alloc (.cells C 26)) w.heap.size 0 v) := fun v => Row.new w C 26 0 v (fun t ht => by omega)
  clear hC hCs hmk
  go_enter Uahg.func28, Uahg.ntmps28
  go_wp2_with fail
  refine wp_loop_rounds 1 ?_
  rw [rounds_succ]
  go_wp2
  go_ret2
  exact ⟨rfl, HR.out, (Below.refl _ _).alloc (Nat.le_refl _) _⟩

set_option maxHeartbeats 400000 in
/-- toArrayStr of an array of strings: those strings, in a new row. -/
theorem str30 (n b : Nat) (g : Nat → ByteArray) (w : World) (hn : n ≤ 1048576) (hR : Row w b n fun t => .iface 9 (.string (g t))) :
    Calls Uahg.prog 30 #[.iface 38 (.slice (some ⟨b, 0, none⟩) n n)] w fun e w' => e = .returned (.tuple #[.slice (some ⟨w.heap.size, 0, none⟩) n n, .bool true]) ∧ (Row w' w.heap.size n fun t => .string (g t)) ∧ Below w.heap.size w w' := by
  obtain ⟨C, hCs, hC, hmk⟩ := make27 n (by omega)
  have a1 := as_arr2 (some ⟨b, 0, none⟩) n n
  have a2 := fun t => as_str2 (g t)
  have HR : Hid (Row (w.alloc (.cells C 9)) w.heap.size n fun t => if t < 0 then .string (g t) else .string ByteArray.empty) :=
    Row.new w C 9 _ _ (fun t ht => by rw [hC t ht, if_neg (by omega)])
  have hbl := hR.lt
  clear hC hCs
  go_enter Uahg.func30, Uahg.ntmps30
  go_wp2_with fail
  go_loopw [22] (fun i wr => ∃ k : Nat, k ≤ n ∧ i = .int .i64 k ∧ Row wr w.heap.size n (fun t => if t < k then .string (g t) else .string ByteArray.empty) ∧ Below w.heap.size w wr) (fun i _ => n - (intOf i).toNat)
  case atStart => exact ⟨0, by omega, rfl, HR.out, (Below.refl _ _).alloc (Nat.le_refl _) _⟩
  case round =>
    obtain ⟨k, hk, rfl, hR2, hB⟩ := hrel
    clear hmk a1 HR
    by_cases hlt : k < n
    · have c1 := (hR.below hB hbl).cell k hlt
      have c2 := hR2.cell k hlt
      have f2 := hR2.free k
      go_wp2
      go_roundw
      case rel =>
        refine ⟨k + 1, by omega, by go_num, ?_, hB.setCell (Nat.le_refl _) _⟩
        refine (hR2.set k hlt (.string (g k))).congr fun t ht => ?_
        by_cases e : t = k
        · rw [if_pos e, if_pos (by omega), e]
        · rw [if_neg e]
          by_cases e2 : t < k
          · rw [if_pos e2, if_pos (by omega)]
          · rw [if_neg e2, if_neg (by omega)]
      case measure => simp [intOf]; omega
    · have HR2 : Hid (Row wr w.heap.size n (fun t => .string (g t))) := hR2.congr fun t ht => by rw [if_pos (by omega)]
      clear hR2
      go_wp2
      go_ret2
      exact ⟨rfl, HR2.out, hB⟩

/-- sort.Stable over an empty sort.Float64Slice: nothing happens. -/
theorem find46L (b n c : Nat) (w : World) : (method 190 46 (.slice (some ⟨b, 0, none⟩) n c) "Less").run Uahg.prog w = .ok (61, .slice (some ⟨b, 0, none⟩) n c) w := by kernel_rfl
theorem find46S (b n c : Nat) (w : World) : (method 190 46 (.slice (some ⟨b, 0, none⟩) n c) "Swap").run Uahg.prog w = .ok (63, .slice (some ⟨b, 0, none⟩) n c) w := by kernel_rfl
theorem find46N (b n c : Nat) (w : World) : (method 190 46 (.slice (some ⟨b, 0, none⟩) n c) "Len").run Uahg.prog w = .ok (60, .slice (some ⟨b, 0, none⟩) n c) w := by kernel_rfl
theorem ent60 (args : Array Value) (w : World) : (callFunc 60 args).run Uahg.prog w = .ok (.enter 60 args) w := by kernel_rfl
theorem ent61 (args : Array Value) (w : World) : (callFunc 61 args).run Uahg.prog w = .ok (.enter 61 args) w := by kernel_rfl
theorem ent63 (args : Array Value) (w : World) : (callFunc 63 args).run Uahg.prog w = .ok (.enter 63 args) w := by kernel_rfl

theorem len60 (b n c : Nat) (w : World) : Calls Uahg.prog 60 #[.slice (some ⟨b, 0, none⟩) n c] w fun e w' => e = .returned (.int .i64 n) ∧ w = w' := by
  go_enter Uahg.func60, Uahg.ntmps60
  go_wp2
  go_ret
  exact ⟨rfl, rfl⟩

theorem methNone (b c : Nat) : Meth (fun _ : Unit => Value.nilIface) (fun _ _ => false) 46 (.slice (some ⟨b, 0, none⟩) 0 c) 61 63 b 0 :=
  ⟨⟨fun _ _ h => (by cases h), fun _ _ _ _ _ => rfl⟩, find46L b 0 c, find46S b 0 c, ent61, ent63, fun d w0 W i j I J h hI hJ hi hj => (by omega), fun d w0 W i j I J h hI hJ hi hj => (by omega)⟩

theorem stableNone (b c : Nat) (w : World) (hS : ∀ v, Row w b 0 v) : Calls Uahg.prog 29 #[.iface 46 (.slice (some ⟨b, 0, none⟩) 0 c)] w fun e w' => e = .returned (.tuple #[]) ∧ Only b w w' :=
  (stable29 (methNone b c) (fun _ => ()) w (by omega) (hS _) (find46N b 0 c) ent60 (len60 b 0 c)).mono fun e w' ⟨h1, d', h2, h3⟩ => ⟨h1, h2.only⟩

/-- What jpfSort hands back: an array in new memory of which R holds. -/
def RetArr {α : Type} (wrap : α → Value) (n : Nat) (R : (Nat → α) → Prop) (w : World) (e : Ending) (w' : World) : Prop :=
  ∃ b' d', e = .returned (.tuple #[.iface 38 (.slice (some ⟨b', 0, none⟩) n n), .nilIface]) ∧ w.heap.size ≤ b' ∧ (Row w' b' n fun t => wrap (d' t)) ∧ R d' ∧ Below w.heap.size w w'

set_option maxHeartbeats 1000000 in
theorem sort24_strs (n b ba ca : Nat) (g : Nat → ByteArray) (w : World) (hn0 : 0 < n) (hn : n ≤ 65536) (hc : w.cell? ⟨ba, 0, none⟩ = some (.iface 38 (.slice (some ⟨b, 0, none⟩) n n))) (hR : Row w b n fun t => .iface 9 (.string (g t))) :
    Calls Uahg.prog 24 #[.slice (some ⟨ba, 0, none⟩) 1 ca] w fun e w' => RetArr (fun s => .iface 9 (.string s)) n (fun d' => Mix 0 n n g d' ∧ Sorted ltS 0 n d') w e w' := by
  have hba : ba < w.heap.size := World.block_lt_of_cell? _ _ hc
  go_enter Uahg.func24, Uahg.ntmps24
  go_wp2_with fail
  refine (num28_strs n b g w hn0 (by omega) hR).mono ?_
  rintro e w2 ⟨rfl, hB2⟩
  have hc2 : w2.cell? ⟨ba, 0, none⟩ = some (.iface 38 (.slice (some ⟨b, 0, none⟩) n n)) := by rw [hB2.cell (p := ⟨ba, 0, none⟩) hba]; exact hc
  have HR2 : Hid (Row w2 b n fun t => .iface 9 (.string (g t))) := hR.below hB2 hR.lt
  have HB2 : Hid (Below w.heap.size w w2) := hB2
  clear hR hc hB2
  go_wp2_with fail
  refine (str30 n b g w2 (by omega) HR2.out).mono ?_
  rintro e w3 ⟨rfl, hR3, hB3⟩
  have hz3 : w2.heap.size < w3.heap.size := hR3.lt
  have hz2 := HB2.out.size
  have HB3 : Hid (Below w.heap.size w w3) := Below.step HB2.out HB2.out.size hB3
  have HR3 : Hid (Row w3 w2.heap.size n fun t => .string (g t)) := hR3
  clear HR2 HB2 hR3 hB3 hc2
  go_wp2_with fail
  refine (stableS w2.heap.size n n g w3 hn HR3.out).mono ?_
  rintro e w4 ⟨rfl, d', hSt, hMx, hSo⟩
  have hz4 := hSt.only.size
  have HB4 : Hid (Below w.heap.size w w4) := Below.only HB3.out hSt.only (by omega) (by omega)
  have hR4 := hSt.row
  have HM : Hid (Mix 0 n n g d' ∧ Sorted ltS 0 n d') := ⟨hMx, hSo⟩
  obtain ⟨C, hCs, hC, hmk⟩ := make38 n (by omega)
  have HRn : Hid (Row (w4.alloc (.cells C 20)) w4.heap.size n fun t => if t < 0 then .iface 9 (.string (d' t)) else .nilIface) :=
    Row.new w4 C 20 _ _ (fun t ht => by rw [hC t ht, if_neg (by omega)])
  have HR4 : Hid (Row (w4.alloc (.cells C 20)) w2.heap.size n fun t => .string (d' t)) := hR4.alloc _
  have HB5 : Hid (Below w.heap.size w (w4.alloc (.cells C 20))) := HB4.out.alloc HB4.out.size _
  clear hSt hMx hSo hCs hC hR4 HB3 HR3 HB4
  go_wp2_with fail
  clear hmk
  go_loopw [62] (fun i wr => ∃ k : Nat, k ≤ n ∧ i = .int .i64 k ∧ Row wr w4.heap.size n (fun t => if t < k then .iface 9 (.string (d' t)) else .nilIface) ∧ Row wr w2.heap.size n (fun t => .string (d' t)) ∧ Below w.heap.size w wr) (fun i _ => n - (intOf i).toNat)
  case atStart => exact ⟨0, by omega, rfl, HRn.out, HR4.out, HB5.out⟩
  case round =>
    obtain ⟨k, hk, rfl, hR5, hR6, hB6⟩ := hrel
    clear HRn HR4 HB5
    by_cases hlt : k < n
    · have c1 := hR6.cell k hlt
      have c2 := hR5.cell k hlt
      have f2 := hR5.free k
      go_wp2
      go_roundw
      case rel =>
        refine ⟨k + 1, by omega, by go_num, ?_, hR6.other (by simp; omega) _, hB6.setCell (by simp; omega) _⟩
        refine (hR5.set k hlt (.iface 9 (.string (d' k)))).congr fun t ht => ?_
        by_cases e : t = k
        · rw [if_pos e, if_pos (by omega), e]
        · rw [if_neg e]
          by_cases e2 : t < k
          · rw [if_pos e2, if_pos (by omega)]
          · rw [if_neg e2, if_neg (by omega)]
      case measure => simp [intOf]; omega
    · have HZ : Hid (RetArr (fun s => .iface 9 (.string s)) n (fun d' => Mix 0 n n g d' ∧ Sorted ltS 0 n d') w (.returned (.tuple #[.iface 38 (.slice (some ⟨w4.heap.size, 0, none⟩) n n), .nilIface])) wr) :=
        ⟨_, d', rfl, by omega, hR5.congr fun t ht => by rw [if_pos (by omega)], HM.out, hB6⟩
      clear hR5 hR6 hB6
      go_wp2
      go_ret2
      exact HZ.out

set_option maxHeartbeats 1000000 in
/-- jpfSort of an empty array. -/
theorem sort24_empty {α : Type} (wrap : α → Value) (R : (Nat → α) → Prop) (g : Nat → α) (hRg : R g) (b ba ca : Nat) (w : World) (hc : w.cell? ⟨ba, 0, none⟩ = some (.iface 38 (.slice (some ⟨b, 0, none⟩) 0 0))) :
    Calls Uahg.prog 24 #[.slice (some ⟨ba, 0, none⟩) 1 ca] w fun e w' => RetArr wrap 0 R w e w' := by
  obtain ⟨C, hCs, hC, hmk⟩ := make38 0 (by omega)
  have hk1 : ∀ W : World, (Instr.makeSlice 38 (.int .i64 0) (.int .i64 0)).run Uahg.prog W = .ok (.slice (some ⟨W.heap.size, 0, none⟩) 0 0) (W.alloc (.cells C 20)) := hmk
  have HG : Hid (R g) := hRg
  clear hC hCs hmk hRg
  go_enter Uahg.func24, Uahg.ntmps24
  go_wp2_with fail
  refine (num28_empty b w).mono ?_
  rintro e w2 ⟨rfl, hR2, hB2⟩
  have HR2 : Hid (∀ v, Row w2 w.heap.size 0 v) := hR2
  have HB2 : Hid (Below w.heap.size w w2) := hB2
  clear hR2 hB2 hc
  go_wp2_with fail
  refine (stableNone w.heap.size 0 w2 HR2.out).mono ?_
  rintro e w4 ⟨rfl, hO⟩
  have HB4 : Hid (Below w.heap.size w w4) := Below.only HB2.out hO HB2.out.size (Nat.le_refl _)
  have HZ : Hid (RetArr wrap 0 R w (.returned (.tuple #[.iface 38 (.slice (some ⟨w4.heap.size, 0, none⟩) 0 0), .nilIface])) (w4.alloc (.cells C 20))) :=
    ⟨_, g, rfl, HB4.out.size, Row.new w4 C 20 0 _ (fun t ht => by omega), HG.out, HB4.out.alloc HB4.out.size _⟩
  clear hO HB2 HR2 HB4
  go_wp2_with fail
  refine wp_loop_rounds 1 ?_
  rw [rounds_succ]
  go_wp2
  go_ret2
  exact HZ.out

theorem sort24 (n b ba ca : Nat) (g : Nat → ByteArray) (w : World) (hn : n ≤ 65536) (hc : w.cell? ⟨ba, 0, none⟩ = some (.iface 38 (.slice (some ⟨b, 0, none⟩) n n))) (hR : Row w b n fun t => .iface 9 (.string (g t))) :
    Calls Uahg.prog 24 #[.slice (some ⟨ba, 0, none⟩) 1 ca] w fun e w' => RetArr (fun s => .iface 9 (.string s)) n (fun d' => Mix 0 n n g d' ∧ Sorted ltS 0 n d') w e w' := by
  by_cases h0 : n = 0
  · subst h0
    exact sort24_empty _ _ g ⟨Mix.refl _ _ _ _, sorted_short (by omega)⟩ b ba ca w hc
  · exact sort24_strs n b ba ca g w (by omega) hn hc hR

/-- What ZZsort hands back: a slice in new memory of which R holds. -/
def RetSl {α : Type} (wrap : α → Value) (n : Nat) (R : (Nat → α) → Prop) (w : World) (e : Ending) (w' : World) : Prop :=
  ∃ b' d', e = .returned (.slice (some ⟨b', 0, none⟩) n n) ∧ w.heap.size ≤ b' ∧ (Row w' b' n fun t => wrap (d' t)) ∧ R d' ∧ Below w.heap.size w w'

set_option maxHeartbeats 1000000 in
theorem zsort15 (n b cap : Nat) (g : Nat → ByteArray) (w : World) (hn : n ≤ 65536) (hR : Row w b n fun t => .string (g t)) :
    Calls Uahg.prog 15 #[.slice (some ⟨b, 0, none⟩) n cap] w fun e w' => RetSl Value.string n (fun d' => Mix 0 n n g d' ∧ Sorted ltS 0 n d') w e w' := by
  obtain ⟨C, hCs, hC, hmk⟩ := make38 n (by omega)
  obtain ⟨D, hDs, hD, hmk2⟩ := make27 n (by omega)
  have HD : Hid (∀ j, j < n → D[j]? = some (.string ByteArray.empty)) := hD
  have HR : Hid (Row (w.alloc (.cells C 20)) w.heap.size n fun t => if t < 0 then .iface 9 (.string (g t)) else .nilIface) :=
    Row.new w C 20 _ _ (fun t ht => by rw [hC t ht, if_neg (by omega)])
  have hbl := hR.lt
  clear hC hCs hDs hD
  go_enter Uahg.func15, Uahg.ntmps15
  go_wp2_with fail
  go_loopw [4] (fun i wr => ∃ k : Nat, k ≤ n ∧ i = .int .i64 k ∧ Row wr w.heap.size n (fun t => if t < k then .iface 9 (.string (g t)) else .nilIface) ∧ Below w.heap.size w wr) (fun i _ => n - (intOf i).toNat)
  case atStart => exact ⟨0, by omega, rfl, HR.out, (Below.refl _ _).alloc (Nat.le_refl _) _⟩
  case round =>
    obtain ⟨k, hk, rfl, hR2, hB⟩ := hrel
    clear HR
    by_cases hlt : k < n
    · have c1 := (hR.below hB hbl).cell k hlt
      have c2 := hR2.cell k hlt
      have f2 := hR2.free k
      clear hmk hmk2
      go_wp2
      go_roundw
      case rel =>
        refine ⟨k + 1, by omega, by go_num, ?_, hB.setCell (Nat.le_refl _) _⟩
        refine (hR2.set k hlt (.iface 9 (.string (g k)))).congr fun t ht => ?_
        by_cases e : t = k
        · rw [if_pos e, if_pos (by omega), e]
        · rw [if_neg e]
          by_cases e2 : t < k
          · rw [if_pos e2, if_pos (by omega)]
          · rw [if_neg e2, if_neg (by omega)]
      case measure => simp [intOf]; omega
    · have hR3 : Row wr w.heap.size n (fun t => .iface 9 (.string (g t))) := hR2.congr fun t ht => by rw [if_pos (by omega)]
      have HR3 : Hid (Row (wr.alloc (.cells #[.iface 38 (.slice (some ⟨w.heap.size, 0, none⟩) n n)] 20)) w.heap.size n (fun t => .iface 9 (.string (g t)))) := hR3.alloc _
      have HB : Hid (Below w.heap.size w (wr.alloc (.cells #[.iface 38 (.slice (some ⟨w.heap.size, 0, none⟩) n n)] 20))) := hB.alloc hB.size _
      have hsz := hB.size
      clear hR2 hR3 hB hmk
      go_wp2_with fail
      refine (sort24 n w.heap.size wr.heap.size 1 g _ hn (by simp) HR3.out).mono ?_
      rintro e w3 ⟨b4, d', rfl, hb4, hR4, hRd, hB3⟩
      simp only [World.size_alloc] at hb4
      have hlt4 := hR4.lt
      have hB4 : Below w.heap.size w w3 := Below.step HB.out (by simp; omega) hB3
      have HR5 : Hid (Row (w3.alloc (.cells D 9)) w3.heap.size n fun t => if t < 0 then .string (d' t) else .string ByteArray.empty) :=
        Row.new w3 D 9 _ _ (fun t ht => by rw [HD.out t ht, if_neg (by omega)])
      have HR4 : Hid (Row (w3.alloc (.cells D 9)) b4 n fun t => .iface 9 (.string (d' t))) := hR4.alloc _
      have HB5 : Hid (Below w.heap.size w (w3.alloc (.cells D 9))) := hB4.alloc hB4.size _
      have HRd : Hid (Mix 0 n n g d' ∧ Sorted ltS 0 n d') := hRd
      have hs4 := hB4.size
      have a2 := as_arr1 (some ⟨b4, 0, none⟩) n n
      have a3 := fun t => as_str1 (d' t)
      clear hR4 hB3 hB4 HD HB HR3 hRd
      go_wp2_with fail
      clear a2 hmk2
      go_loopw [9] (fun i wr => ∃ k : Nat, k ≤ n ∧ i = .int .i64 k ∧ Row wr w3.heap.size n (fun t => if t < k then .string (d' t) else .string ByteArray.empty) ∧ Row wr b4 n (fun t => .iface 9 (.string (d' t))) ∧ Below w.heap.size w wr) (fun i _ => n - (intOf i).toNat)
      case atStart => exact ⟨0, by omega, rfl, HR5.out, HR4.out, HB5.out⟩
      case round =>
        obtain ⟨j, hj, rfl, hR6, hR7, hB6⟩ := hrel
        clear HR5 HR4 HB5
        by_cases hlt2 : j < n
        · have c1 := hR7.cell j hlt2
          have c2 := hR6.cell j hlt2
          have f2 := hR6.free j
          go_wp2
          go_roundw
          case rel =>
            refine ⟨j + 1, by omega, by go_num, ?_, hR7.other (by simp; omega) _, hB6.setCell (by simp; omega) _⟩
            refine (hR6.set j hlt2 (.string (d' j))).congr fun t ht => ?_
            by_cases e : t = j
            · rw [if_pos e, if_pos (by omega), e]
            · rw [if_neg e]
              by_cases e2 : t < j
              · rw [if_pos e2, if_pos (by omega)]
              · rw [if_neg e2, if_neg (by omega)]
          case measure => simp [intOf]; omega
        · have HZ : Hid (RetSl Value.string n (fun d' => Mix 0 n n g d' ∧ Sorted ltS 0 n d') w (.returned (.slice (some ⟨w3.heap.size, 0, none⟩) n n)) wr) :=
            ⟨_, d', rfl, by omega, hR6.congr fun t ht => by rw [if_pos (by omega)], HRd.out, hB6⟩
          clear hR6 hR7 hB6
          go_wp2
          go_ret
          exact HZ.out

set_option maxHeartbeats 1000000 in
theorem zsort15_nil (w : World) : Calls Uahg.prog 15 #[.slice none 0 0] w fun e w' => RetSl Value.string 0 (fun _ => True) w e w' := by
  obtain ⟨C, hCs, hC, hmk⟩ := make38 0 (by omega)
  obtain ⟨D, hDs, hD, hmk2⟩ := make27 0 (by omega)
  have hk1 : ∀ W : World, (Instr.makeSlice 38 (.int .i64 0) (.int .i64 0)).run Uahg.prog W = .ok (.slice (some ⟨W.heap.size, 0, none⟩) 0 0) (W.alloc (.cells C 20)) := hmk
  have hk2 : ∀ W : World, (Instr.makeSlice 27 (.int .i64 0) (.int .i64 0)).run Uahg.prog W = .ok (.slice (some ⟨W.heap.size, 0, none⟩) 0 0) (W.alloc (.cells D 9)) := hmk2
  clear hC hCs hDs hD hmk hmk2
  go_enter Uahg.func15, Uahg.ntmps15
  go_wp2_with fail
  refine wp_loop_rounds 1 ?_
  rw [rounds_succ]
  go_wp2_with fail
  refine (sort24_empty (fun s : ByteArray => .iface 9 (.string s)) (fun _ => True) (fun _ => ByteArray.empty) trivial w.heap.size (w.heap.size + 1) 1 _ (by simp)).mono ?_
  rintro e w3 ⟨b4, d', rfl, hb4, hR4, hRd, hB3⟩
  have hB4 : Below w.heap.size w w3 := Below.step (((Below.refl _ _).alloc (Nat.le_refl _) _).alloc (by simp) _) (by simp; omega) hB3
  have HZ : Hid (RetSl Value.string 0 (fun _ => True) w (.returned (.slice (some ⟨w3.heap.size, 0, none⟩) 0 0)) (w3.alloc (.cells D 9))) :=
    ⟨_, fun _ => ByteArray.empty, rfl, hB4.size, Row.new w3 D 9 0 _ (fun t ht => by omega), trivial, hB4.alloc hB4.size _⟩
  have a2 := as_arr1 (some ⟨b4, 0, none⟩) 0 0
  clear hR4 hB3 hB4 hk1 hRd hb4
  go_wp2_with fail
  refine wp_loop_rounds 1 ?_
  rw [rounds_succ]
  go_wp2
  go_ret
  exact HZ.out
end Go.Proofs.Youahw
