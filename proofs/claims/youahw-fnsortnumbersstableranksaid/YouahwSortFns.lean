/-
  PLAIN LAWS ON SORTING: no Go text. An array is a function from places to elements.
-/
import Derived.KernelRfl
namespace Go.Proofs.Youahw
variable {α : Type}

/-- The array with places i and j exchanged. -/
def swp (d : Nat → α) (i j t : Nat) : α := if t = j then d i else if t = i then d j else d t

/-- How many of the first n elements p takes. -/
def cnt (p : α → Bool) (d : Nat → α) : Nat → Nat
  | 0 => 0
  | n + 1 => cnt p d n + (if p (d n) then 1 else 0)

def upd (d : Nat → α) (i : Nat) (v : α) (t : Nat) : α := if t = i then v else d t

theorem cnt_congr {p : α → Bool} {d d' : Nat → α} : ∀ n, (∀ t, t < n → d t = d' t) → cnt p d n = cnt p d' n
  | 0, _ => rfl
  | n + 1, h => by simp only [cnt]; rw [cnt_congr n (fun t ht => h t (by omega)), h n (by omega)]

theorem cnt_upd (p : α → Bool) (d : Nat → α) (i : Nat) (v : α) : ∀ n, i < n → cnt p (upd d i v) n + (if p (d i) then 1 else 0) = cnt p d n + (if p v then 1 else 0)
  | 0, h => by omega
  | n + 1, h => by
    simp only [cnt]
    by_cases e : n = i
    · subst e
      have h1 : cnt p (upd d n v) n = cnt p d n := cnt_congr n (fun t ht => by unfold upd; rw [if_neg (by omega)])
      have h2 : upd d n v n = v := by unfold upd; rw [if_pos rfl]
      rw [h1, h2]; omega
    · have ih := cnt_upd p d i v n (by omega)
      have h2 : upd d i v n = d n := by unfold upd; rw [if_neg e]
      rw [h2]; omega

theorem cnt_swp (p : α → Bool) (d : Nat → α) (i j n : Nat) (hi : i < n) (hj : j < n) : cnt p (swp d i j) n = cnt p d n := by
  have e : swp d i j = upd (upd d i (d j)) j (d i) := by
    funext t; unfold swp upd; rfl
  have h1 := cnt_upd p (upd d i (d j)) j (d i) n hj
  have h2 := cnt_upd p d i (d j) n hi
  have h3 : upd d i (d j) j = d j := by unfold upd; split; rfl; rfl
  rw [h3] at h1
  rw [e]; omega

/-- d' is d with the places a .. b-1 mixed among themselves. -/
structure Mix (a b n : Nat) (d d' : Nat → α) : Prop where
  bag : ∀ p : α → Bool, cnt p d' n = cnt p d n
  inn : ∀ t, a ≤ t → t < b → ∃ s, a ≤ s ∧ s < b ∧ d' t = d s
  out : ∀ t, (t < a ∨ b ≤ t) → d' t = d t

theorem Mix.refl (a b n : Nat) (d : Nat → α) : Mix a b n d d := ⟨fun _ => rfl, fun t h1 h2 => ⟨t, h1, h2, rfl⟩, fun _ _ => rfl⟩

theorem Mix.trans {a b n : Nat} {d d' d'' : Nat → α} (h : Mix a b n d d') (k : Mix a b n d' d'') : Mix a b n d d'' :=
  ⟨fun p => (k.bag p).trans (h.bag p), fun t h1 h2 => by
    obtain ⟨s, h3, h4, h5⟩ := k.inn t h1 h2
    obtain ⟨r, h6, h7, h8⟩ := h.inn s h3 h4
    exact ⟨r, h6, h7, h5.trans h8⟩, fun t ht => (k.out t ht).trans (h.out t ht)⟩

theorem Mix.mono {a b a' b' n : Nat} {d d' : Nat → α} (h : Mix a b n d d') (ha : a' ≤ a) (hb : b ≤ b') : Mix a' b' n d d' :=
  ⟨h.bag, fun t h1 h2 => by
    by_cases c : a ≤ t ∧ t < b
    · obtain ⟨s, h3, h4, h5⟩ := h.inn t c.1 c.2
      exact ⟨s, by omega, by omega, h5⟩
    · exact ⟨t, h1, h2, h.out t (by omega)⟩, fun t ht => h.out t (by omega)⟩

theorem Mix.swp {a b n : Nat} {d d' : Nat → α} (h : Mix a b n d d') {i j : Nat} (hi : a ≤ i ∧ i < b) (hj : a ≤ j ∧ j < b) (hb : b ≤ n) : Mix a b n d (swp d' i j) := by
  refine h.trans ⟨fun p => cnt_swp p d' i j n (by omega) (by omega), fun t h1 h2 => ?_, fun t ht => ?_⟩
  · unfold Youahw.swp
    by_cases e : t = j
    · exact ⟨i, hi.1, hi.2, by rw [if_pos e]⟩
    · by_cases e2 : t = i
      · exact ⟨j, hj.1, hj.2, by rw [if_neg e, if_pos e2]⟩
      · exact ⟨t, h1, h2, by rw [if_neg e, if_neg e2]⟩
  · unfold Youahw.swp
    rw [if_neg (by omega), if_neg (by omega)]

/-! ### The order -/
structure Ord (lt : α → α → Bool) : Prop where
  asym : ∀ x y, lt x y = true → lt y x = false
  trans : ∀ x y z, lt y x = false → lt z y = false → lt z x = false

theorem Ord.irr {lt : α → α → Bool} (h : Ord lt) (x : α) : lt x x = false := by
  cases e : lt x x with
  | false => rfl
  | true => rw [← e]; exact h.asym x x e

theorem Ord.le_lt {lt : α → α → Bool} (h : Ord lt) {x y z : α} (h1 : lt y x = false) (h2 : lt y z = true) : lt x z = true := by
  cases e : lt x z with
  | true => rfl
  | false => have := h.trans z x y e h1; rw [this] at h2; cases h2

theorem Ord.lt_le {lt : α → α → Bool} (h : Ord lt) {x y z : α} (h1 : lt x y = true) (h2 : lt z y = false) : lt x z = true := by
  cases e : lt x z with
  | true => rfl
  | false => have := h.trans y z x h2 e; rw [this] at h1; cases h1

def Sorted (lt : α → α → Bool) (a b : Nat) (d : Nat → α) : Prop := ∀ x y, a ≤ x → x < y → y < b → lt (d y) (d x) = false

theorem Sorted.congr {lt : α → α → Bool} {a b : Nat} {d d' : Nat → α} (h : Sorted lt a b d) (e : ∀ t, a ≤ t → t < b → d' t = d t) : Sorted lt a b d' :=
  fun x y h1 h2 h3 => by rw [e x h1 (by omega), e y (by omega) h3]; exact h x y h1 h2 h3

theorem Sorted.sub {lt : α → α → Bool} {a b a' b' : Nat} {d : Nat → α} (h : Sorted lt a b d) (ha : a ≤ a') (hb : b' ≤ b) : Sorted lt a' b' d :=
  fun x y h1 h2 h3 => h x y (by omega) h2 (by omega)

theorem Sorted.le {lt : α → α → Bool} (o : Ord lt) {a b : Nat} {d : Nat → α} (h : Sorted lt a b d) (x y : Nat) (h1 : a ≤ x) (h2 : x ≤ y) (h3 : y < b) : lt (d y) (d x) = false := by
  by_cases e : x = y
  · subst e; exact o.irr _
  · exact h x y h1 (by omega) h3

theorem sorted_short {lt : α → α → Bool} {a b : Nat} {d : Nat → α} (h : b ≤ a + 1) : Sorted lt a b d := fun x y h1 h2 h3 => by omega

theorem sorted_join {lt : α → α → Bool} {a m b : Nat} {d : Nat → α} (h1 : Sorted lt a m d) (h2 : Sorted lt m b d) (h3 : ∀ x y, a ≤ x → x < m → m ≤ y → y < b → lt (d y) (d x) = false) : Sorted lt a b d := by
  intro x y ha hxy hb
  by_cases c1 : y < m
  · exact h1 x y ha hxy c1
  · by_cases c2 : m ≤ x
    · exact h2 x y c2 hxy hb
    · exact h3 x y ha (by omega) (by omega) hb

/-! ### Insertion -/
/-- Sorted but for place j against what lies before it. -/
def Hole (lt : α → α → Bool) (a b j : Nat) (d : Nat → α) : Prop := ∀ x y, a ≤ x → x < y → y < b → y ≠ j → lt (d y) (d x) = false

theorem hole_start {lt : α → α → Bool} {a i : Nat} {d : Nat → α} (h : Sorted lt a i d) : Hole lt a (i + 1) i d :=
  fun x y h1 h2 h3 h4 => h x y h1 h2 (by omega)

theorem hole_step {lt : α → α → Bool} (o : Ord lt) {a b j : Nat} {d : Nat → α} (h : Hole lt a b j d) (ha : a < j) (hj : j < b) (hl : lt (d j) (d (j - 1)) = true) : Hole lt a b (j - 1) (swp d j (j - 1)) := by
  intro x y h1 h2 h3 h4
  by_cases ey : y = j
  · subst ey
    have e1 : swp d y (y - 1) y = d (y - 1) := by unfold swp; rw [if_neg (by omega), if_pos rfl]
    rw [e1]
    by_cases ex : x = y - 1
    · subst ex
      have e2 : swp d y (y - 1) (y - 1) = d y := by unfold swp; rw [if_pos rfl]
      rw [e2]; exact o.asym _ _ hl
    · have e2 : swp d y (y - 1) x = d x := by unfold swp; rw [if_neg ex, if_neg (by omega)]
      rw [e2]; exact h x (y - 1) h1 (by omega) (by omega) (by omega)
  · have e1 : swp d j (j - 1) y = d y := by unfold swp; rw [if_neg h4, if_neg ey]
    rw [e1]
    by_cases ex : x = j
    · subst ex
      have e2 : swp d x (x - 1) x = d (x - 1) := by unfold swp; rw [if_neg (by omega), if_pos rfl]
      rw [e2]; exact h (x - 1) y (by omega) (by omega) h3 ey
    · by_cases ex2 : x = j - 1
      · subst ex2
        have e2 : swp d j (j - 1) (j - 1) = d j := by unfold swp; rw [if_pos rfl]
        rw [e2]; exact h j y (by omega) (by omega) h3 ey
      · have e2 : swp d j (j - 1) x = d x := by unfold swp; rw [if_neg ex2, if_neg ex]
        rw [e2]; exact h x y h1 h2 h3 ey

theorem hole_end {lt : α → α → Bool} (o : Ord lt) {a b j : Nat} {d : Nat → α} (h : Hole lt a b j d) (hs : j ≤ a ∨ lt (d j) (d (j - 1)) = false) : Sorted lt a b d := by
  intro x y h1 h2 h3
  by_cases ey : y = j
  · subst ey
    rcases hs with hs | hs
    · omega
    · by_cases ex : x = y - 1
      · subst ex; exact hs
      · exact o.trans _ _ _ (h x (y - 1) h1 (by omega) (by omega) (by omega)) hs
  · exact h x y h1 h2 h3 ey

/-! ### Exchanging ranges, rotating -/
def srf (d : Nat → α) (a b : Nat) : Nat → Nat → α
  | 0 => d
  | k + 1 => swp (srf d a b k) (a + k) (b + k)

theorem srf_mix {a b n lo hi : Nat} (d : Nat → α) : ∀ k, lo ≤ a → lo ≤ b → a + k ≤ hi → b + k ≤ hi → hi ≤ n → Mix lo hi n d (srf d a b k)
  | 0, _, _, _, _, _ => Mix.refl _ _ _ _
  | k + 1, h1, h2, h3, h4, h5 => (srf_mix d k h1 h2 (by omega) (by omega) h5).swp ⟨by omega, by omega⟩ ⟨by omega, by omega⟩ h5

theorem srf_at (d : Nat → α) (a b : Nat) : ∀ k, a + k ≤ b → ∀ t, srf d a b k t = if a ≤ t ∧ t < a + k then d (t - a + b) else if b ≤ t ∧ t < b + k then d (t - b + a) else d t
  | 0, _, t => by
    simp only [srf]
    rw [if_neg (by omega), if_neg (by omega)]
  | k + 1, h, t => by
    have ih := srf_at d a b k (by omega)
    simp only [srf, swp]
    rw [ih (a + k), ih (b + k), ih t]
    rw [if_neg (show ¬ (a ≤ a + k ∧ a + k < a + k) by omega), if_neg (show ¬ (b ≤ a + k ∧ a + k < b + k) by omega)]
    rw [if_neg (show ¬ (a ≤ b + k ∧ b + k < a + k) by omega), if_neg (show ¬ (b ≤ b + k ∧ b + k < b + k) by omega)]
    by_cases e1 : t = b + k
    · rw [if_pos e1, if_neg (by omega), if_pos (by omega)]; congr 1; omega
    · rw [if_neg e1]
      by_cases e2 : t = a + k
      · rw [if_pos e2, if_pos (by omega)]; congr 1; omega
      · rw [if_neg e2]
        by_cases c1 : a ≤ t ∧ t < a + k
        · rw [if_pos c1, if_pos (by omega)]
        · rw [if_neg c1]
          by_cases c2 : b ≤ t ∧ t < b + k
          · rw [if_pos c2, if_neg (by omega), if_pos (by omega)]
          · rw [if_neg c2, if_neg (by omega), if_neg (by omega)]

/-- The blocks a .. m-1 and m .. b-1 exchanged. -/
def rot (d : Nat → α) (a m b t : Nat) : α := if a ≤ t ∧ t < a + (b - m) then d (t + (m - a)) else if a + (b - m) ≤ t ∧ t < b then d (t - (b - m)) else d t

theorem rot_left (e : Nat → α) (m i j : Nat) (hi : i ≤ m) (hj : j < i) (t : Nat) : rot (srf e (m - i) m j) (m - (i - j)) m (m + j) t = rot e (m - i) m (m + j) t := by
  have hs := srf_at e (m - i) m j (by omega)
  unfold rot
  rw [show m + j - m = j by omega]
  by_cases c1 : m - i ≤ t ∧ t < m - i + j
  · rw [if_neg (by omega), if_neg (by omega), if_pos c1, hs, if_pos c1]; congr 1; omega
  · rw [if_neg c1]
    by_cases c2 : m - i + j ≤ t ∧ t < m + j
    · rw [if_pos c2]
      by_cases c3 : t < m - (i - j) + j
      · rw [if_pos (by omega), hs, if_neg (by omega), if_pos (by omega)]; congr 1; omega
      · rw [if_neg (by omega), if_pos (by omega), hs, if_neg (by omega), if_neg (by omega)]
    · rw [if_neg c2, if_neg (by omega), if_neg (by omega), hs, if_neg (by omega), if_neg (by omega)]

theorem rot_right (e : Nat → α) (m i j : Nat) (hi : i ≤ m) (hj : i < j) (t : Nat) : rot (srf e (m - i) (m + j - i) i) (m - i) m (m + (j - i)) t = rot e (m - i) m (m + j) t := by
  have hs := srf_at e (m - i) (m + j - i) i (by omega)
  unfold rot
  rw [show m + j - m = j by omega, show m + (j - i) - m = j - i by omega]
  by_cases c1 : m - i ≤ t ∧ t < m - i + j
  · rw [if_pos c1]
    by_cases c3 : t < m - i + (j - i)
    · rw [if_pos (by omega), hs]
      by_cases c4 : t + (m - (m - i)) < m - i + i
      · omega
      · rw [if_neg (by omega), if_neg (by omega)]
    · rw [if_neg (by omega)]
      by_cases c5 : t < m + (j - i)
      · rw [if_pos (by omega), hs, if_pos (by omega)]; congr 1; omega
      · omega
  · rw [if_neg c1]
    by_cases c2 : m - i + j ≤ t ∧ t < m + j
    · rw [if_pos c2, if_neg (by omega), if_neg (by omega), hs, if_neg (by omega), if_pos (by omega)]; congr 1; omega
    · rw [if_neg c2, if_neg (by omega), if_neg (by omega), hs, if_neg (by omega), if_neg (by omega)]

theorem rot_last (e : Nat → α) (m i : Nat) (hi : i ≤ m) (t : Nat) : srf e (m - i) m i t = rot e (m - i) m (m + i) t := by
  rw [srf_at e (m - i) m i (by omega)]
  unfold rot
  rw [show m + i - m = i by omega]
  by_cases c1 : m - i ≤ t ∧ t < m - i + i
  · rw [if_pos c1, if_pos c1]; congr 1; omega
  · rw [if_neg c1, if_neg c1]
    by_cases c2 : m ≤ t ∧ t < m + i
    · rw [if_pos c2, if_pos (by omega)]; congr 1; omega
    · rw [if_neg c2, if_neg (by omega)]
end Go.Proofs.Youahw
