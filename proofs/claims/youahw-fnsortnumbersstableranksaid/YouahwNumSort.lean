/-
  sort.Float64Slice: ITS METHODS; sort.Stable over it.
-/
import Derived.Test.YouahwStable
import Derived.Test.YouahwNumOrd
import Derived.Test.YouahwStrArr
import Derived.BigRegion
import Derived.RegionTactic
import Derived.BigQuiet
import Derived.Deep.QuietTactic
import Derived.Deep.RegionWith
namespace Go.Proofs.Youahw
open Go.RowKit

theorem ordF : Ord ltF := ⟨fun _ _ h => ltD_asym _ _ h, fun _ _ _ h1 h2 => ltD_trans _ _ _ h1 h2⟩

theorem isNaN64 (x : Nat) (w : World) : Calls Uahg.prog 64 #[.float .f64 x] w fun e w' => e = .returned (.bool (FloatKind.f64.format.order x x != some .eq)) ∧ w' = w := by
  go_enter Uahg.func64, Uahg.ntmps64
  go_wp2
  go_ret
  exact ⟨rfl, rfl⟩

set_option maxHeartbeats 400000 in
theorem less61 (b n c i j : Nat) (d : Nat → Nat) (W : World) (hi : i < n) (hj : j < n) (hR : Row W b n fun t => .float .f64 (d t)) :
    Calls Uahg.prog 61 #[.slice (some ⟨b, 0, none⟩) n c, .int .i64 i, .int .i64 j] W fun e w' => e = .returned (.bool (ltF (d i) (d j))) ∧ Below W.heap.size W w' := by
  have c1 := hR.cell i hi
  have c2 := hR.cell j hj
  have i1 : (i : Int) < n := by omega
  have i2 : (j : Int) < n := by omega
  rw [ltF_eq]
  generalize d i = x at *
  generalize d j = y at *
  cases h1 : (FloatKind.f64.format.order x y == some .lt) with
  | true =>
    go_enter Uahg.func61, Uahg.ntmps61
    go_wp2_with fail
    go_quiet (fail)
    go_wp2
    go_ret
    exact ⟨rfl, below_drewN (Below.refl _ _) _⟩
  | false =>
    cases h2 : (FloatKind.f64.format.order x x != some .eq) with
    | false =>
      have HN : Hid (∀ W2, Calls Uahg.prog 64 #[.float .f64 x] W2 fun e w' => e = .returned (.bool false) ∧ w' = W2) := fun W2 => by have := isNaN64 x W2; rw [h2] at this; exact this
      clear h2
      go_enter Uahg.func61, Uahg.ntmps61
      go_wp2_with fail
      go_quiet ((go_at_call 64; exact Calls.quiet_of_same (HN.out _)))
      go_wp2
      go_ret
      exact ⟨rfl, below_drewN (Below.refl _ _) _⟩
    | true =>
      have HN : Hid (∀ W2, Calls Uahg.prog 64 #[.float .f64 x] W2 fun e w' => e = .returned (.bool true) ∧ w' = W2) := fun W2 => by have := isNaN64 x W2; rw [h2] at this; exact this
      clear h2
      cases h3 : (FloatKind.f64.format.order y y == some .eq) with
      | true =>
        have HY : Hid (∀ W2, Calls Uahg.prog 64 #[.float .f64 y] W2 fun e w' => e = .returned (.bool false) ∧ w' = W2) := fun W2 => by have := isNaN64 y W2; rw [bne, h3] at this; exact this
        clear h3
        go_enter Uahg.func61, Uahg.ntmps61
        go_wp2_with fail
        go_quiet ((first | (go_at_call_of 64 (Value.float .f64 x); exact Calls.quiet_of_same (HN.out _)) | (go_at_call_of 64 (Value.float .f64 y); exact Calls.quiet_of_same (HY.out _))))
        go_wp2
        go_ret
        exact ⟨rfl, below_drewN (Below.refl _ _) _⟩
      | false =>
        have HY : Hid (∀ W2, Calls Uahg.prog 64 #[.float .f64 y] W2 fun e w' => e = .returned (.bool true) ∧ w' = W2) := fun W2 => by have := isNaN64 y W2; rw [bne, h3] at this; exact this
        clear h3
        go_enter Uahg.func61, Uahg.ntmps61
        go_wp2_with fail
        go_quiet ((first | (go_at_call_of 64 (Value.float .f64 x); exact Calls.quiet_of_same (HN.out _)) | (go_at_call_of 64 (Value.float .f64 y); exact Calls.quiet_of_same (HY.out _))))
        go_wp2
        go_ret
        exact ⟨rfl, below_drewN (Below.refl _ _) _⟩

theorem run_store_float {P : Program} (w : World) (a : Addr) (m : Mode) (k : FloatKind) (x : Nat) : (store a (.float k x) m).run P w = stored P w a (.float k x) m := run_store P w a _ m rfl
attribute [local go_sem] run_store_float

set_option maxHeartbeats 400000 in
theorem swap63 (b n c i j : Nat) (d : Nat → Nat) (W : World) (hi : i < n) (hj : j < n) (hR : Row W b n fun t => .float .f64 (d t)) :
    Calls Uahg.prog 63 #[.slice (some ⟨b, 0, none⟩) n c, .int .i64 i, .int .i64 j] W fun e w' => e = .returned (.tuple #[]) ∧ (Row w' b n fun t => .float .f64 (swp d i j t)) ∧ Only b W w' := by
  have c1 := hR.cell i hi
  have c2 := hR.cell j hj
  have f1 := hR.free i
  have f2 := hR.free j
  have i1 : (i : Int) < n := by omega
  have i2 : (j : Int) < n := by omega
  have c3 : (W.setCell ⟨b, i, none⟩ (.float .f64 (d j))).cell? ⟨b, j, none⟩ = some (.float .f64 (d j)) := by
    rw [(hR.set i hi (.float .f64 (d j))).cell j hj]
    by_cases e : j = i
    · rw [if_pos e]
    · rw [if_neg e]
  have HR : Hid (Row ((W.setCell ⟨b, i, none⟩ (.float .f64 (d j))).setCell ⟨b, j, none⟩ (.float .f64 (d i))) b n fun t => .float .f64 (swp d i j t)) :=
    ((hR.set i hi (.float .f64 (d j))).set j hj (.float .f64 (d i))).congr fun t ht => by
      unfold swp
      by_cases e1 : t = j
      · rw [if_pos e1, if_pos e1]
      · rw [if_neg e1, if_neg e1]
        by_cases e2 : t = i
        · rw [if_pos e2, if_pos e2]
        · rw [if_neg e2, if_neg e2]
  have HO : Hid (Only b W ((W.setCell ⟨b, i, none⟩ (.float .f64 (d j))).setCell ⟨b, j, none⟩ (.float .f64 (d i)))) := ((Only.refl _ _).setCell _ _).setCell _ _
  clear hR
  go_enter Uahg.func63, Uahg.ntmps63
  go_wp2_with fail
  go_region
  go_end0
  exact ⟨rfl, HR.out.drew, HO.out.drew⟩

theorem methF (b n c : Nat) : Meth (Value.float .f64) ltF 46 (.slice (some ⟨b, 0, none⟩) n c) 61 63 b n :=
  ⟨ordF, find46L b n c, find46S b n c, ent61, ent63,
    fun d w0 W i j I J h hI hJ hi hj => by subst hI hJ; exact less61 b n c i j d W hi hj h.row,
    fun d w0 W i j I J h hI hJ hi hj => by
      subst hI hJ
      exact (swap63 b n c i j d W hi hj h.row).mono fun e w' ⟨h1, h2, h3⟩ => ⟨h1, h2, h.only.trans h3⟩⟩

/-- sort.Stable over a sort.Float64Slice. -/
theorem stableF (b n c : Nat) (d : Nat → Nat) (w : World) (hn : n ≤ 65536) (hS : Row w b n fun t => .float .f64 (d t)) :
    Calls Uahg.prog 29 #[.iface 46 (.slice (some ⟨b, 0, none⟩) n c)] w fun e w' => Sorts (Value.float .f64) b n w (fun d' => Mix 0 n n d d' ∧ Sorted ltF 0 n d') e w' :=
  stable29 (methF b n c) d w hn hS (find46N b n c) ent60 (len60 b n c)
end Go.Proofs.Youahw
