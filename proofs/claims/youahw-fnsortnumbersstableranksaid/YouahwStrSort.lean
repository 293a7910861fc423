/-
  sort.StringSlice: ITS METHODS, ITS ORDER; sort.Stable over it.
-/
import Derived.Test.YouahwStable
import Derived.BigRegion
import Derived.RegionTactic
namespace Go.Proofs.Youahw
open Go.RowKit

/-! ### The order of strings -/
theorem bl_asym : ∀ x y : List UInt8, Op.bytesLess x y = true → Op.bytesLess y x = false
  | [], [], _ => rfl
  | [], _ :: _, _ => rfl
  | _ :: _, [], h => by simp [Op.bytesLess] at h
  | a :: x, b :: y, h => by
    simp only [Op.bytesLess, Bool.or_eq_true, Bool.and_eq_true, decide_eq_true_eq, beq_iff_eq] at h
    simp only [Op.bytesLess, Bool.or_eq_false_iff, decide_eq_false_iff_not]
    rcases h with h | ⟨rfl, h⟩
    · have hn : ¬ b < a := by rw [UInt8.lt_iff_toNat_lt] at *; omega
      have he : (b == a) = false := by
        rw [beq_eq_false_iff_ne]; intro e; subst e; rw [UInt8.lt_iff_toNat_lt] at h; omega
      exact ⟨hn, by rw [he]; rfl⟩
    · have hn : ¬ a < a := by rw [UInt8.lt_iff_toNat_lt]; omega
      exact ⟨hn, by rw [bl_asym x y h]; simp⟩

theorem bl_trans : ∀ x y z : List UInt8, Op.bytesLess x y = true → Op.bytesLess y z = true → Op.bytesLess x z = true
  | _, _, [], _, h => by simp [Op.bytesLess] at h
  | [], _, _ :: _, _, _ => rfl
  | _ :: _, [], _ :: _, h, _ => by simp [Op.bytesLess] at h
  | a :: x, b :: y, c :: z, h, k => by
    simp only [Op.bytesLess, Bool.or_eq_true, Bool.and_eq_true, decide_eq_true_eq, beq_iff_eq] at h k ⊢
    rcases h with h | ⟨rfl, h⟩
    · rcases k with k | ⟨rfl, k⟩
      · left; rw [UInt8.lt_iff_toNat_lt] at *; omega
      · left; exact h
    · rcases k with k | ⟨rfl, k⟩
      · left; exact k
      · right; exact ⟨rfl, bl_trans x y z h k⟩

theorem bl_tri : ∀ x y : List UInt8, Op.bytesLess x y = false → Op.bytesLess y x = false → x = y
  | [], [], _, _ => rfl
  | [], _ :: _, h, _ => by simp [Op.bytesLess] at h
  | _ :: _, [], _, h => by simp [Op.bytesLess] at h
  | a :: x, b :: y, h, k => by
    simp only [Op.bytesLess, Bool.or_eq_false_iff, decide_eq_false_iff_not, Bool.and_eq_false_iff, beq_eq_false_iff_ne] at h k
    have e : a = b := by
      rw [← UInt8.toNat_inj]
      have h1 := h.1
      have h2 := k.1
      rw [UInt8.lt_iff_toNat_lt] at h1 h2
      omega
    subst e
    have h2 : Op.bytesLess x y = false := by rcases h.2 with g | g; exact absurd rfl g; exact g
    have k2 : Op.bytesLess y x = false := by rcases k.2 with g | g; exact absurd rfl g; exact g
    rw [bl_tri x y h2 k2]

def ltS (x y : ByteArray) : Bool := Op.bytesLess x.toList y.toList

theorem ordS : Ord ltS := by
  refine ⟨fun x y h => bl_asym _ _ h, fun x y z h1 h2 => ?_⟩
  unfold ltS at *
  cases e : Op.bytesLess z.toList x.toList with
  | false => rfl
  | true =>
    cases e2 : Op.bytesLess x.toList y.toList with
    | true => rw [bl_trans _ _ _ e e2] at h2; cases h2
    | false =>
      have := bl_tri _ _ e2 h1
      rw [← this, e] at h2; cases h2

/-- In the place where the first is not below the second: equal just where the second is not below the first. -/
theorem eqS {x y : ByteArray} (h : ltS x y = false) : (x.toList == y.toList) = !ltS y x := by
  cases e : ltS y x with
  | false => rw [bl_tri _ _ h e]; simp
  | true =>
    rw [Bool.not_true, beq_eq_false_iff_ne]
    intro he
    unfold ltS at e
    rw [he] at e
    have := bl_asym _ _ e
    rw [e] at this; cases this

/-! ### The methods -/
theorem len65 (b n c : Nat) (w : World) : Calls Uahg.prog 65 #[.slice (some ⟨b, 0, none⟩) n c] w fun e w' => e = .returned (.int .i64 n) ∧ w = w' := by
  go_enter Uahg.func65, Uahg.ntmps65
  go_wp2
  go_ret
  exact ⟨rfl, rfl⟩

set_option maxHeartbeats 400000 in
theorem less66 (b n c i j : Nat) (d : Nat → ByteArray) (W : World) (hi : i < n) (hj : j < n) (hR : Row W b n fun t => .string (d t)) :
    Calls Uahg.prog 66 #[.slice (some ⟨b, 0, none⟩) n c, .int .i64 i, .int .i64 j] W fun e w' => e = .returned (.bool (ltS (d i) (d j))) ∧ Below W.heap.size W w' := by
  have c1 := hR.cell i hi
  have c2 := hR.cell j hj
  have i1 : (i : Int) < n := by omega
  have i2 : (j : Int) < n := by omega
  go_enter Uahg.func66, Uahg.ntmps66
  go_wp2_with fail
  go_region
  go_wp2
  go_ret
  exact ⟨rfl, (Below.refl _ _).drew⟩

set_option maxHeartbeats 400000 in
theorem swap68 (b n c i j : Nat) (d : Nat → ByteArray) (W : World) (hi : i < n) (hj : j < n) (hR : Row W b n fun t => .string (d t)) :
    Calls Uahg.prog 68 #[.slice (some ⟨b, 0, none⟩) n c, .int .i64 i, .int .i64 j] W fun e w' => e = .returned (.tuple #[]) ∧ (Row w' b n fun t => .string (swp d i j t)) ∧ Only b W w' := by
  have c1 := hR.cell i hi
  have c2 := hR.cell j hj
  have f1 := hR.free i
  have f2 := hR.free j
  have i1 : (i : Int) < n := by omega
  have i2 : (j : Int) < n := by omega
  have c3 : (W.setCell ⟨b, i, none⟩ (.string (d j))).cell? ⟨b, j, none⟩ = some (.string (d j)) := by
    rw [(hR.set i hi (.string (d j))).cell j hj]
    by_cases e : j = i
    · rw [if_pos e]
    · rw [if_neg e]
  have HR : Hid (Row ((W.setCell ⟨b, i, none⟩ (.string (d j))).setCell ⟨b, j, none⟩ (.string (d i))) b n fun t => .string (swp d i j t)) :=
    ((hR.set i hi (.string (d j))).set j hj (.string (d i))).congr fun t ht => by
      unfold swp
      by_cases e1 : t = j
      · rw [if_pos e1, if_pos e1]
      · rw [if_neg e1, if_neg e1]
        by_cases e2 : t = i
        · rw [if_pos e2, if_pos e2]
        · rw [if_neg e2, if_neg e2]
  have HO : Hid (Only b W ((W.setCell ⟨b, i, none⟩ (.string (d j))).setCell ⟨b, j, none⟩ (.string (d i)))) := ((Only.refl _ _).setCell _ _).setCell _ _
  clear hR
  go_enter Uahg.func68, Uahg.ntmps68
  go_wp2_with fail
  go_region
  go_end0
  exact ⟨rfl, HR.out.drew, HO.out.drew⟩

theorem find50L (b n c : Nat) (w : World) : (method 190 50 (.slice (some ⟨b, 0, none⟩) n c) "Less").run Uahg.prog w = .ok (66, .slice (some ⟨b, 0, none⟩) n c) w := by kernel_rfl
theorem find50S (b n c : Nat) (w : World) : (method 190 50 (.slice (some ⟨b, 0, none⟩) n c) "Swap").run Uahg.prog w = .ok (68, .slice (some ⟨b, 0, none⟩) n c) w := by kernel_rfl
theorem find50N (b n c : Nat) (w : World) : (method 190 50 (.slice (some ⟨b, 0, none⟩) n c) "Len").run Uahg.prog w = .ok (65, .slice (some ⟨b, 0, none⟩) n c) w := by kernel_rfl
theorem ent65 (args : Array Value) (w : World) : (callFunc 65 args).run Uahg.prog w = .ok (.enter 65 args) w := by kernel_rfl
theorem ent66 (args : Array Value) (w : World) : (callFunc 66 args).run Uahg.prog w = .ok (.enter 66 args) w := by kernel_rfl
theorem ent68 (args : Array Value) (w : World) : (callFunc 68 args).run Uahg.prog w = .ok (.enter 68 args) w := by kernel_rfl

theorem methS (b n c : Nat) : Meth Value.string ltS 50 (.slice (some ⟨b, 0, none⟩) n c) 66 68 b n :=
  ⟨ordS, find50L b n c, find50S b n c, ent66, ent68,
    fun d w0 W i j I J h hI hJ hi hj => by subst hI hJ; exact less66 b n c i j d W hi hj h.row,
    fun d w0 W i j I J h hI hJ hi hj => by
      subst hI hJ
      exact (swap68 b n c i j d W hi hj h.row).mono fun e w' ⟨h1, h2, h3⟩ => ⟨h1, h2, h.only.trans h3⟩⟩

/-- sort.Stable over a sort.StringSlice. -/
theorem stableS (b n c : Nat) (d : Nat → ByteArray) (w : World) (hn : n ≤ 65536) (hS : Row w b n fun t => .string (d t)) :
    Calls Uahg.prog 29 #[.iface 50 (.slice (some ⟨b, 0, none⟩) n c)] w fun e w' => Sorts Value.string b n w (fun d' => Mix 0 n n d d' ∧ Sorted ltS 0 n d') e w' :=
  stable29 (methS b n c) d w hn hS (find50N b n c) ent65 (len65 b n c)
end Go.Proofs.Youahw
