/-
  THE WALKS OF THE JOIN.
-/
import Derived.Test.YouahwJoinFns
import Derived.Test.YouahwMake
import Derived.Test.YouahwShelf
import Derived.BigQuiet
import Derived.Deep.QuietTactic
import Derived.RegionTactic
import Derived.BigRegion
namespace Go.Proofs.Youahw
open Go.RowKit

/-- strings.Join over a slice that the call itself gathered. -/
theorem join31_owned (B k : Nat) (sep : ByteArray) (g : Nat → ByteArray) (v : Value) (w : World) (hown : w.ownsRow B 9 1 v k ((upTo g k).map Value.string)) (hk : k ≤ 4194304) (hl : (jl (bs sep) g k).length ≤ 140737488355328) :
    Calls Uahg.prog 31 #[v, .string sep] w fun e w' => e = .returned (.string (joinS sep g k)) ∧ Below w.heap.size w w' := by
  rcases hown.2 with ⟨rfl, rfl⟩ | ⟨bk, cap, cur, rfl, hbase, hb, h1, h2, h3, h4⟩
  · refine (Uahg.strings_Join_none none 0 sep w).mono ?_
    rintro e w' ⟨rfl, rfl⟩
    exact ⟨by rw [joinS_zero], Below.refl _ _⟩
  · have hJ := Uahg.strings_Join bk 0 cap (upTo g k) sep w ?_ (Array.getElem?_eq_some_iff.1 hb).1 (by rw [upTo_len]; omega) (by rw [upTo_len]; omega) (by rw [join_upTo]; exact hl)
    · rw [upTo_len, joinS_eq] at hJ
      exact hJ
    · intro j x hx
      obtain ⟨hj, rfl⟩ := upTo_get g k j x hx
      rw [cell_of_row _ _ _ _ _ _ hb, Nat.zero_add]
      have e1 : cur[j]? = (cur.toList.take (k * 1))[j]? := by rw [List.getElem?_take_of_lt (by omega)]; simp
      rw [e1, h4]
      simp [hx]

set_option maxHeartbeats 400000 in
theorem join25 (n b ba ca : Nat) (sep : ByteArray) (g : Nat → ByteArray) (w : World) (hn : n ≤ 1048576) (hs : sep.size ≤ 1048576) (hz : sz g n ≤ 4194304)
    (hc0 : w.cell? ⟨ba, 0, none⟩ = some (.iface 9 (.string sep))) (hc1 : w.cell? ⟨ba, 1, none⟩ = some (.iface 38 (.slice (some ⟨b, 0, none⟩) n n))) (hR : Row w b n fun t => .iface 9 (.string (g t))) :
    Calls Uahg.prog 25 #[.slice (some ⟨ba, 0, none⟩) 2 ca] w fun e w' => e = .returned (.tuple #[.iface 9 (.string (joinS sep g n)), .nilIface]) ∧ Below w.heap.size w w' := by
  have a1 := as_str1 sep
  have a2 := as_arr1 (some ⟨b, 0, none⟩) n n
  have a3 := fun t => as_str1 (g t)
  have hbl := hR.lt
  have hba : ba < w.heap.size := World.block_lt_of_cell? _ _ hc0
  have hlen := jl_len (bs sep) g n
  rw [bs_len] at hlen
  have hlen2 : n * sep.size ≤ 1048576 * 1048576 := Nat.mul_le_mul hn hs
  go_enter Uahg.func25, Uahg.ntmps25
  go_wp2_with fail
  go_loopw [5, 18] (fun v i wr => ∃ k : Nat, k ≤ n ∧ i = .int .i64 k ∧ wr.ownsRow w.heap.size 9 1 v k ((upTo g k).map Value.string) ∧ Below w.heap.size w wr) (fun _ i _ => n - (intOf i).toNat)
  case atStart => exact ⟨0, by omega, rfl, World.ownsRow_made w #[] 0 (Nat.le_refl _) (by simp [maxLen]) rfl, (Below.refl _ _).alloc (Nat.le_refl _) _⟩
  case round =>
    obtain ⟨k, hk, rfl, hown, hB⟩ := hrel
    clear hc0 hc1 a1 a2
    by_cases hlt : k < n
    · have c1 := (hR.below hB hbl).cell k hlt
      obtain ⟨i0, hi, hz0, hz1, hz2⟩ := info_parts info9
      have hsz := hB.size
      go_wp2_with (at_builtin; refine wpList_append_own _ rfl (.tmp 22) (.tmp 25) 27 rfl w.heap.size 9 i0 (.string ByteArray.empty) 1 16 Uahg.underlying27 hi hz0 hz1 hz2 rfl (by decide) _ _ _ rfl (hown.alloc _) ⟨wr.heap.size, 0, none⟩ 1 1 [.string (g k)] rfl rfl (cell_one_new _ _ _) ?c2 ?c3 ?c4 ?c5 ?_)
      case c2 => intro u hu; simp at hu; subst hu; rfl
      case c3 => unfold maxLen; omega
      case c4 => omega
      case c5 => simp; omega
      intro v' w1 hown' hgrow _
      have HO : Hid (w1.ownsRow w.heap.size 9 1 v' (k + 1) ((upTo g (k + 1)).map Value.string)) := by show World.ownsRow _ _ _ _ _ _ _; rw [upTo_succ]; simpa using hown'
      have HB : Hid (Below w.heap.size w w1) := (hB.alloc hsz _).grown hgrow (by simp; omega) (fun j hj => (hown.lt j hj).1)
      clear hown' hgrow hown hB hi hz0 hz1 hz2
      go_wp2
      go_roundw
      case rel => exact ⟨k + 1, by omega, by go_num, HO.out, HB.out⟩
      case measure => simp [intOf]; omega
    · have hkn : k = n := by omega
      subst hkn
      have HL : Hid ((jl (bs sep) g k).length ≤ 140737488355328) := by show _ ≤ _; omega
      clear hlen hlen2 hz
      go_wp2_with fail
      refine (join31_owned _ k sep g _ _ hown (by omega) HL.out).mono ?_
      rintro e w2 ⟨rfl, hB2⟩
      have HB : Hid (Below w.heap.size w w2) := Below.step hB hB.size hB2
      clear hown hB hB2
      go_wp2
      go_ret2
      exact ⟨rfl, HB.out⟩

set_option maxHeartbeats 400000 in
theorem zjoin17 (n b cap : Nat) (sep : ByteArray) (g : Nat → ByteArray) (w : World) (hn : n ≤ 1048576) (hs : sep.size ≤ 1048576) (hz : sz g n ≤ 4194304) (hR : Row w b n fun t => .string (g t)) :
    Calls Uahg.prog 17 #[.string sep, .slice (some ⟨b, 0, none⟩) n cap] w fun e w' => e = .returned (.string (joinS sep g n)) ∧ Below w.heap.size w w' := by
  obtain ⟨C, hCs, hC, hmk⟩ := make38 n (by omega)
  have HR : Hid (Row (w.alloc (.cells C 20)) w.heap.size n fun t => if t < 0 then .iface 9 (.string (g t)) else .nilIface) :=
    Row.new w C 20 _ _ (fun t ht => by rw [hC t ht, if_neg (by omega)])
  have hbl := hR.lt
  clear hC hCs
  go_enter Uahg.func17, Uahg.ntmps17
  go_wp2_with fail
  go_loopw [6] (fun i wr => ∃ k : Nat, k ≤ n ∧ i = .int .i64 k ∧ Row wr w.heap.size n (fun t => if t < k then .iface 9 (.string (g t)) else .nilIface) ∧ Below w.heap.size w wr) (fun i _ => n - (intOf i).toNat)
  case atStart => exact ⟨0, by omega, rfl, HR.out, (Below.refl _ _).alloc (Nat.le_refl _) _⟩
  case round =>
    obtain ⟨k, hk, rfl, hR2, hB⟩ := hrel
    clear HR
    by_cases hlt : k < n
    · have c1 := (hR.below hB hbl).cell k hlt
      have c2 := hR2.cell k hlt
      have f2 := hR2.free k
      clear hmk
      go_wp2
      go_roundw
      case rel =>
        refine ⟨k + 1, by omega, by go_num, ?_, hB.setCell (Nat.le_refl _) _⟩
        refine (hR2.set k hlt (.iface 9 (.string (g k)))).congr fun t ht => ?_
        by_cases e : t = k
        · rw [if_pos e, if_pos (by omega), e]
        · rw [if_neg e]
          by_cases e2 : t < k
          · rw [if_pos e2, if_pos (by omega)]
          · rw [if_neg e2, if_neg (by omega)]
      case measure => simp [intOf]; omega
    · have hR3 : Row wr w.heap.size n (fun t => .iface 9 (.string (g t))) := hR2.congr fun t ht => by rw [if_pos (by omega)]
      have HR3 : Hid (Row (wr.alloc (.cells #[.iface 9 (.string sep), .iface 38 (.slice (some ⟨w.heap.size, 0, none⟩) n n)] 20)) w.heap.size n (fun t => .iface 9 (.string (g t)))) := hR3.alloc _
      have HB : Hid (Below w.heap.size w (wr.alloc (.cells #[.iface 9 (.string sep), .iface 38 (.slice (some ⟨w.heap.size, 0, none⟩) n n)] 20))) := hB.alloc hB.size _
      have a2 := as_str1 (joinS sep g n)
      have hsz := hB.size
      clear hR2 hR3 hB hmk
      go_wp2_with fail
      refine (join25 n w.heap.size wr.heap.size 2 sep g _ hn hs hz (by simp) (by simp) HR3.out).mono ?_
      rintro e w3 ⟨rfl, hB3⟩
      have HB4 : Hid (Below w.heap.size w w3) := Below.step HB.out (by simp; omega) hB3
      clear HR3 HB hB3
      go_wp2
      go_ret
      exact ⟨rfl, HB4.out⟩

set_option maxHeartbeats 400000 in
theorem zjoin17_nil (sep : ByteArray) (w : World) (hs : sep.size ≤ 1048576) :
    Calls Uahg.prog 17 #[.string sep, .slice none 0 0] w fun e w' => e = .returned (.string (joinS sep (fun _ => ByteArray.empty) 0)) ∧ Below w.heap.size w w' := by
  obtain ⟨C, hCs, hC, hmk⟩ := make38 0 (by omega)
  have hk1 : ∀ W : World, (Instr.makeSlice 38 (.int .i64 0) (.int .i64 0)).run Uahg.prog W = .ok (.slice (some ⟨W.heap.size, 0, none⟩) 0 0) (W.alloc (.cells C 20)) := hmk
  have HR3 : Hid (Row ((w.alloc (.cells C 20)).alloc (.cells #[.iface 9 (.string sep), .iface 38 (.slice (some ⟨w.heap.size, 0, none⟩) 0 0)] 20)) w.heap.size 0 (fun _ => .iface 9 (.string ByteArray.empty))) :=
    (Row.new w C 20 _ _ (fun t ht => by omega)).alloc _
  clear hC hCs hmk
  have a2 := as_str1 (joinS sep (fun _ => ByteArray.empty) 0)
  go_enter Uahg.func17, Uahg.ntmps17
  go_wp2_with fail
  refine wp_loop_rounds 1 ?_
  rw [rounds_succ]
  go_wp2_with fail
  refine (join25 0 w.heap.size (w.heap.size + 1) 2 sep (fun _ => ByteArray.empty) _ (by omega) hs (by simp [sz]) (by simp) (by simp) HR3.out).mono ?_
  rintro e w3 ⟨rfl, hB3⟩
  have HB4 : Hid (Below w.heap.size w w3) := Below.step (((Below.refl _ _).alloc (Nat.le_refl _) _).alloc (by simp) _) (by simp; omega) hB3
  clear HR3 hB3 hk1
  go_wp2
  go_ret
  exact ⟨rfl, HB4.out⟩
end Go.Proofs.Youahw
