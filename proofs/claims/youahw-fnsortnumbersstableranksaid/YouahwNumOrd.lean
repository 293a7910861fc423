/-
  THE ORDER OF THE NUMBERS, plain: sort.Float64Slice's order (a NaN below all else, else <) is a strict weak order; two numbers of which neither is below the other are of one class.
-/
import GoSem.Core.Float
namespace Go.Proofs.Youahw
open Ieee

/-- The place of a number's last digit. -/
def plc : Datum → Int
  | .number _ _ i => i
  | _ => 0
/-- NaN, the lower infinity, the numbers, the upper infinity. -/
def lev : Datum → Int
  | .nan .. => -2
  | .infinity s => if s then -1 else 1
  | .number .. => 0
/-- A number in units of two to the B. -/
def val (B : Int) : Datum → Int
  | .number s m i => signed s m (i - B).toNat
  | _ => 0

def ltD (x y : Datum) : Bool := (x.order y == some .lt) || ((x.order x != some .eq) && (y.order y == some .eq))
def sameD (x y : Datum) : Bool := (x.order y == some .eq) || ((x.order x != some .eq) && (y.order y != some .eq))

theorem signed_add (s : Bool) (m u k : Nat) : signed s m (u + k) = signed s m u * (2 ^ k : Nat) := by
  unfold signed
  rw [Nat.shiftLeft_eq, Nat.shiftLeft_eq, Nat.pow_add, ← Nat.mul_assoc]
  cases s with
  | false => simp
  | true => simp [Int.neg_mul]

theorem val_at (s : Bool) (m : Nat) (i base B : Int) (h1 : base ≤ i) (h2 : B ≤ base) : val B (.number s m i) = signed s m (i - base).toNat * (2 ^ (base - B).toNat : Nat) := by
  rw [← signed_add]
  show signed s m (i - B).toNat = _
  congr 1
  omega

theorem pow_pos' (k : Nat) : (0 : Int) < (2 ^ k : Nat) := by
  have := Nat.pow_pos (n := k) (show 0 < 2 by omega)
  omega

theorem cmp_lt (a b : Int) : ((some (compare a b) : Option Ordering) == some .lt) = decide (a < b) := by
  by_cases h : a < b
  · rw [show compare a b = .lt from Int.compare_eq_lt.2 h, decide_eq_true h]; rfl
  · rw [decide_eq_false h]
    cases e : compare a b with
    | lt => exact absurd (Int.compare_eq_lt.1 e) h
    | eq => rfl
    | gt => rfl

theorem cmp_eq (a b : Int) : ((some (compare a b) : Option Ordering) == some .eq) = decide (a = b) := by
  by_cases h : a = b
  · rw [show compare a b = .eq from Int.compare_eq_eq.2 h, decide_eq_true h]; rfl
  · rw [decide_eq_false h]
    cases e : compare a b with
    | lt => rfl
    | eq => exact absurd (Int.compare_eq_eq.1 e) h
    | gt => rfl

theorem order_num_lt (s t : Bool) (m n : Nat) (i j B : Int) (hi : B ≤ i) (hj : B ≤ j) : ((Datum.number s m i).order (.number t n j) == some .lt) = decide (val B (.number s m i) < val B (.number t n j)) := by
  have e : (Datum.number s m i).order (.number t n j) = some (compare (signed s m (i - min i j).toNat) (signed t n (j - min i j).toNat)) := rfl
  rw [e, cmp_lt, val_at s m i (min i j) B (by omega) (by omega), val_at t n j (min i j) B (by omega) (by omega)]
  have hp := pow_pos' (min i j - B).toNat
  congr 1
  exact propext ⟨fun h => Int.mul_lt_mul_of_pos_right h hp, fun h => Int.lt_of_mul_lt_mul_right h (Int.le_of_lt hp)⟩

theorem order_num_eq (s t : Bool) (m n : Nat) (i j B : Int) (hi : B ≤ i) (hj : B ≤ j) : ((Datum.number s m i).order (.number t n j) == some .eq) = decide (val B (.number s m i) = val B (.number t n j)) := by
  have e : (Datum.number s m i).order (.number t n j) = some (compare (signed s m (i - min i j).toNat) (signed t n (j - min i j).toNat)) := rfl
  rw [e, cmp_eq, val_at s m i (min i j) B (by omega) (by omega), val_at t n j (min i j) B (by omega) (by omega)]
  have hp := pow_pos' (min i j - B).toNat
  congr 1
  exact propext ⟨fun h => by rw [h], fun h => Int.eq_of_mul_eq_mul_right (by omega) h⟩

theorem order_self : ∀ x : Datum, (x.order x == some .eq) = decide (lev x ≠ -2)
  | .nan .. => rfl
  | .infinity true => rfl
  | .infinity false => rfl
  | .number s m i => by rw [order_num_eq s s m m i i i (Int.le_refl _) (Int.le_refl _)]; simp [lev]

theorem order_self' (x : Datum) : (x.order x != some .eq) = decide (lev x = -2) := by
  rw [bne, order_self]
  simp

theorem ltD_key (x y : Datum) (B : Int) (hx : B ≤ plc x) (hy : B ≤ plc y) : ltD x y = decide (lev x < lev y ∨ (lev x = lev y ∧ val B x < val B y)) := by
  unfold ltD
  rw [order_self, order_self']
  match x, y, hx, hy with
  | .nan .., .nan .., _, _ => simp [lev, val, Datum.order]
  | .nan .., .infinity t, _, _ => cases t <;> simp [lev, Datum.order]
  | .nan .., .number .., _, _ => simp [lev, Datum.order]
  | .infinity s, .nan .., _, _ => cases s <;> simp [lev, Datum.order]
  | .number .., .nan .., _, _ => simp [lev, Datum.order]
  | .infinity s, .infinity t, _, _ => cases s <;> cases t <;> simp [lev, val, Datum.order] <;> decide
  | .infinity s, .number .., _, _ => cases s <;> simp [lev, Datum.order]
  | .number .., .infinity t, _, _ => cases t <;> simp [lev, Datum.order]
  | .number s m i, .number t n j, hx, hy => rw [order_num_lt s t m n i j B hx hy]; simp [lev]

theorem sameD_key (x y : Datum) (B : Int) (hx : B ≤ plc x) (hy : B ≤ plc y) : sameD x y = decide (lev x = lev y ∧ val B x = val B y) := by
  unfold sameD
  rw [order_self', order_self']
  match x, y, hx, hy with
  | .nan .., .nan .., _, _ => simp [lev, val, Datum.order]
  | .nan .., .infinity t, _, _ => cases t <;> simp [lev, Datum.order]
  | .nan .., .number .., _, _ => simp [lev, Datum.order]
  | .infinity s, .nan .., _, _ => cases s <;> simp [lev, Datum.order]
  | .number .., .nan .., _, _ => simp [lev, Datum.order]
  | .infinity s, .infinity t, _, _ => cases s <;> cases t <;> simp [lev, val, Datum.order] <;> decide
  | .infinity s, .number .., _, _ => cases s <;> simp [lev, Datum.order]
  | .number .., .infinity t, _, _ => cases t <;> simp [lev, Datum.order]
  | .number s m i, .number t n j, hx, hy => rw [order_num_eq s t m n i j B hx hy]; simp [lev]

theorem ltD_asym (x y : Datum) (h : ltD x y = true) : ltD y x = false := by
  rw [ltD_key x y (min (plc x) (plc y)) (by omega) (by omega)] at h
  rw [ltD_key y x (min (plc x) (plc y)) (by omega) (by omega)]
  rw [decide_eq_true_eq] at h
  rw [decide_eq_false_iff_not]
  omega

theorem ltD_trans (x y z : Datum) (h1 : ltD y x = false) (h2 : ltD z y = false) : ltD z x = false := by
  have ex : min (plc x) (min (plc y) (plc z)) ≤ plc x := by omega
  have ey : min (plc x) (min (plc y) (plc z)) ≤ plc y := by omega
  have ez : min (plc x) (min (plc y) (plc z)) ≤ plc z := by omega
  rw [ltD_key _ _ _ ey ex, decide_eq_false_iff_not] at h1
  rw [ltD_key _ _ _ ez ey, decide_eq_false_iff_not] at h2
  rw [ltD_key _ _ _ ez ex, decide_eq_false_iff_not]
  omega

theorem ltD_same (x y : Datum) (h1 : ltD x y = false) (h2 : ltD y x = false) : sameD x y = true := by
  rw [ltD_key x y (min (plc x) (plc y)) (by omega) (by omega), decide_eq_false_iff_not] at h1
  rw [ltD_key y x (min (plc x) (plc y)) (by omega) (by omega), decide_eq_false_iff_not] at h2
  rw [sameD_key x y (min (plc x) (plc y)) (by omega) (by omega), decide_eq_true_eq]
  omega

/-- sort.Float64Slice's order of words. -/
def ltF (x y : Nat) : Bool := ltD (FloatKind.f64.format.read x) (FloatKind.f64.format.read y)
theorem ltF_eq (x y : Nat) : ltF x y = ((FloatKind.f64.format.order x y == some .lt) || ((FloatKind.f64.format.order x x != some .eq) && (FloatKind.f64.format.order y y == some .eq))) := rfl
theorem sameF {x y : Nat} (h1 : ltF x y = false) (h2 : ltF y x = false) : ((FloatKind.f64.format.order x y == some .eq) || ((FloatKind.f64.format.order x x != some .eq) && (FloatKind.f64.format.order y y != some .eq))) = true :=
  ltD_same _ _ h1 h2
end Go.Proofs.Youahw
