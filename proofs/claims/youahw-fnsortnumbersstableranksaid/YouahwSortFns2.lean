/-
  PLAIN LAWS ON SORTING, 2: one element moved; symMerge's law; blocks; the rank.
-/
import Derived.Test.YouahwSortFns
namespace Go.Proofs.Youahw
variable {α : Type}

/-! ### One element moved to the right: exchanges (a, a+1), (a+1, a+2), .. -/
def mvR (d : Nat → α) (a : Nat) : Nat → Nat → α
  | 0 => d
  | k + 1 => swp (mvR d a k) (a + k) (a + k + 1)

theorem mvR_mix {a n lo hi : Nat} (d : Nat → α) : ∀ k, lo ≤ a → a + k < hi → hi ≤ n → Mix lo hi n d (mvR d a k)
  | 0, _, _, _ => Mix.refl _ _ _ _
  | k + 1, h1, h2, h3 => (mvR_mix d k h1 (by omega) h3).swp ⟨by omega, by omega⟩ ⟨by omega, by omega⟩ h3

theorem mvR_at (d : Nat → α) (a : Nat) : ∀ k t, mvR d a k t = if a ≤ t ∧ t < a + k then d (t + 1) else if t = a + k then d a else d t
  | 0, t => by
    simp only [mvR]
    rw [if_neg (by omega)]
    by_cases e : t = a + 0
    · rw [if_pos e]; congr 1
    · rw [if_neg e]
  | k + 1, t => by
    have ih := mvR_at d a k
    simp only [mvR, swp]
    rw [ih (a + k), ih (a + k + 1), ih t]
    rw [if_neg (show ¬ (a ≤ a + k ∧ a + k < a + k) by omega), if_pos rfl, if_neg (show ¬ (a ≤ a + k + 1 ∧ a + k + 1 < a + k) by omega), if_neg (show ¬ (a + k + 1 = a + k) by omega)]
    by_cases e1 : t = a + k + 1
    · rw [if_pos e1, if_neg (by omega), if_pos (by omega)]
    · rw [if_neg e1]
      by_cases e2 : t = a + k
      · rw [if_pos e2, if_pos (by omega)]; congr 1; omega
      · rw [if_neg e2]
        by_cases c1 : a ≤ t ∧ t < a + k
        · rw [if_pos c1, if_pos (by omega)]
        · rw [if_neg c1, if_neg e2, if_neg (by omega), if_neg (by omega)]

theorem sorted_mvR {lt : α → α → Bool} (o : Ord lt) {a b i : Nat} {d : Nat → α} (h : Sorted lt (a + 1) b d) (hi : a + 1 ≤ i) (hib : i ≤ b)
    (h1 : ∀ t, a + 1 ≤ t → t < i → lt (d t) (d a) = true) (h2 : ∀ t, i ≤ t → t < b → lt (d t) (d a) = false) : Sorted lt a b (mvR d a (i - 1 - a)) := by
  have e := mvR_at d a (i - 1 - a)
  rw [show a + (i - 1 - a) = i - 1 by omega] at e
  intro x y hx hxy hy
  rw [e x, e y]
  by_cases cx : x < i - 1
  · rw [if_pos (show a ≤ x ∧ x < i - 1 by omega)]
    by_cases cy : y < i - 1
    · rw [if_pos (show a ≤ y ∧ y < i - 1 by omega)]; exact h _ _ (by omega) (by omega) (by omega)
    · rw [if_neg (show ¬ (a ≤ y ∧ y < i - 1) by omega)]
      by_cases ey : y = i - 1
      · rw [if_pos ey]; exact o.asym _ _ (h1 _ (by omega) (by omega))
      · rw [if_neg ey]; exact h _ _ (by omega) (by omega) (by omega)
  · rw [if_neg (show ¬ (a ≤ x ∧ x < i - 1) by omega), if_neg (show ¬ (a ≤ y ∧ y < i - 1) by omega), if_neg (show ¬ y = i - 1 by omega)]
    by_cases ex : x = i - 1
    · rw [if_pos ex]; exact h2 _ (by omega) hy
    · rw [if_neg ex]; exact h _ _ (by omega) (by omega) (by omega)

/-! ### One element moved to the left: exchanges (m, m-1), (m-1, m-2), .. -/
def mvL (d : Nat → α) (m : Nat) : Nat → Nat → α
  | 0 => d
  | k + 1 => swp (mvL d m k) (m - k) (m - k - 1)

theorem mvL_mix {m n lo hi : Nat} (d : Nat → α) : ∀ k, lo + k ≤ m → m < hi → hi ≤ n → Mix lo hi n d (mvL d m k)
  | 0, _, _, _ => Mix.refl _ _ _ _
  | k + 1, h1, h2, h3 => (mvL_mix d k (by omega) (by omega) h3).swp ⟨by omega, by omega⟩ ⟨by omega, by omega⟩ h3

theorem mvL_at (d : Nat → α) (m : Nat) : ∀ k, k ≤ m → ∀ t, mvL d m k t = if m - k < t ∧ t ≤ m then d (t - 1) else if t = m - k then d m else d t
  | 0, _, t => by
    simp only [mvL]
    rw [if_neg (by omega)]
    by_cases e : t = m - 0
    · rw [if_pos e]; congr 1
    · rw [if_neg e]
  | k + 1, h, t => by
    have ih := mvL_at d m k (by omega)
    simp only [mvL, swp]
    rw [ih (m - k), ih (m - k - 1), ih t]
    rw [if_neg (show ¬ (m - k < m - k ∧ m - k ≤ m) by omega), if_pos rfl, if_neg (show ¬ (m - k < m - k - 1 ∧ m - k - 1 ≤ m) by omega), if_neg (show ¬ (m - k - 1 = m - k) by omega)]
    by_cases e1 : t = m - k - 1
    · rw [if_pos e1, if_neg (by omega), if_pos (by omega)]
    · rw [if_neg e1]
      by_cases e2 : t = m - k
      · rw [if_pos e2, if_pos (by omega)]; congr 1; omega
      · rw [if_neg e2]
        by_cases c1 : m - k < t ∧ t ≤ m
        · rw [if_pos c1, if_pos (by omega)]
        · rw [if_neg c1, if_neg e2, if_neg (by omega), if_neg (by omega)]

theorem sorted_mvL {lt : α → α → Bool} (o : Ord lt) {a m i : Nat} {d : Nat → α} (h : Sorted lt a m d) (hi : a ≤ i) (him : i ≤ m)
    (h1 : ∀ t, a ≤ t → t < i → lt (d m) (d t) = false) (h2 : ∀ t, i ≤ t → t < m → lt (d m) (d t) = true) : Sorted lt a (m + 1) (mvL d m (m - i)) := by
  have e := mvL_at d m (m - i) (by omega)
  rw [show m - (m - i) = i by omega] at e
  intro x y hx hxy hy
  rw [e x, e y]
  by_cases cx : i < x
  · rw [if_pos (show i < x ∧ x ≤ m by omega), if_pos (show i < y ∧ y ≤ m by omega)]; exact h _ _ (by omega) (by omega) (by omega)
  · rw [if_neg (show ¬ (i < x ∧ x ≤ m) by omega)]
    by_cases ex : x = i
    · rw [if_pos ex, if_pos (show i < y ∧ y ≤ m by omega)]; exact o.asym _ _ (h2 _ (by omega) (by omega))
    · rw [if_neg ex]
      by_cases cy : i < y
      · rw [if_pos (show i < y ∧ y ≤ m by omega)]; exact h _ _ (by omega) (by omega) (by omega)
      · rw [if_neg (show ¬ (i < y ∧ y ≤ m) by omega)]
        by_cases ey : y = i
        · rw [if_pos ey]; exact h1 _ hx (by omega)
        · rw [if_neg ey]; exact h _ _ hx hxy (by omega)

/-! ### symMerge's law -/
theorem rot_same {d : Nat → α} {a m b : Nat} (ha : a ≤ m) (hb : m ≤ b) (h : a = m ∨ m = b) (t : Nat) : rot d a m b t = d t := by
  unfold rot
  rcases h with h | h
  · subst h
    by_cases c : a ≤ t ∧ t < a + (b - a)
    · rw [if_pos c]; congr 1; omega
    · rw [if_neg c, if_neg (by omega)]
  · subst h
    rw [if_neg (by omega)]
    by_cases c : a + (m - m) ≤ t ∧ t < m
    · rw [if_pos c]; congr 1; omega
    · rw [if_neg c]

/-- Behind the rotation: four sorted pieces, the two on the left below the two on the right. -/
theorem sym_parts {lt : α → α → Bool} (o : Ord lt) {a m b mid start : Nat} {d d1 : Nat → α} (hA : Sorted lt a m d) (hB : Sorted lt m b d) (ham : a ≤ m)
    (hs1 : a ≤ start) (hs2 : start ≤ m) (hsm : start ≤ mid) (he2 : mid + m ≤ start + b) (hrot : ∀ t, d1 t = rot d start m (mid + m - start) t)
    (hlo : (start = a ∨ mid + m - start = b) ∨ lt (d (mid + m - start)) (d (start - 1)) = false)
    (hhi : (start = m ∨ mid = start) ∨ lt (d (mid + m - 1 - start)) (d start) = true) :
    Sorted lt a start d1 ∧ Sorted lt start mid d1 ∧ Sorted lt mid (mid + m - start) d1 ∧ Sorted lt (mid + m - start) b d1 ∧ ∀ x y, a ≤ x → x < mid → mid ≤ y → y < b → lt (d1 y) (d1 x) = false := by
  have e1 : ∀ t, t < start → d1 t = d t := fun t ht => by rw [hrot]; unfold rot; rw [if_neg (by omega), if_neg (by omega)]
  have e2 : ∀ t, start ≤ t → t < mid → d1 t = d (t + (m - start)) := fun t h1 h2 => by rw [hrot]; unfold rot; rw [if_pos (by omega)]
  have e3 : ∀ t, mid ≤ t → t < mid + m - start → d1 t = d (t - (mid - start)) := fun t h1 h2 => by rw [hrot]; unfold rot; rw [if_neg (by omega), if_pos (by omega)]; congr 1; omega
  have e4 : ∀ t, mid + m - start ≤ t → d1 t = d t := fun t ht => by rw [hrot]; unfold rot; rw [if_neg (by omega), if_neg (by omega)]
  refine ⟨fun x y h1 h2 h3 => ?_, fun x y h1 h2 h3 => ?_, fun x y h1 h2 h3 => ?_, fun x y h1 h2 h3 => ?_, fun x y h1 h2 h3 h4 => ?_⟩
  · rw [e1 x (by omega), e1 y h3]; exact hA _ _ h1 h2 (by omega)
  · rw [e2 x h1 (by omega), e2 y (by omega) h3]; exact hB _ _ (by omega) (by omega) (by omega)
  · rw [e3 x h1 (by omega), e3 y (by omega) h3]; exact hA _ _ (by omega) (by omega) (by omega)
  · rw [e4 x h1, e4 y (by omega)]; exact hB _ _ (by omega) h2 h3
  · by_cases cx : x < start
    · rw [e1 x cx]
      by_cases cy : y < mid + m - start
      · rw [e3 y h3 cy]; exact hA.le o _ _ h1 (by omega) (by omega)
      · rw [e4 y (by omega)]
        rcases hlo with (hlo | hlo) | hlo
        · omega
        · omega
        · have q1 := hA.le o x (start - 1) h1 (by omega) (by omega)
          have q2 := hB.le o (mid + m - start) y (by omega) (by omega) h4
          exact o.trans _ _ _ (o.trans _ _ _ q1 hlo) q2
    · rw [e2 x (by omega) h2]
      by_cases cy : y < mid + m - start
      · rw [e3 y h3 cy]
        rcases hhi with (hhi | hhi) | hhi
        · omega
        · omega
        · have q1 := hB.le o (x + (m - start)) (mid + m - 1 - start) (by omega) (by omega) (by omega)
          have q2 := hA.le o start (y - (mid - start)) (by omega) (by omega) (by omega)
          exact o.trans _ _ _ (o.trans _ _ _ q1 (o.asym _ _ hhi)) q2
      · rw [e4 y (by omega)]; exact hB.le o _ _ (by omega) (by omega) h4

/-- The two halves, each sorted within itself, join. -/
theorem sym_join {lt : α → α → Bool} {a mid b n : Nat} {d1 d2 d3 : Nat → α} (h12 : Mix a mid n d1 d2) (h23 : Mix mid b n d2 d3) (s2 : Sorted lt a mid d2) (s3 : Sorted lt mid b d3)
    (hc : ∀ x y, a ≤ x → x < mid → mid ≤ y → y < b → lt (d1 y) (d1 x) = false) : Sorted lt a b d3 := by
  refine sorted_join (s2.congr fun t _ ht => h23.out t (.inl ht)) s3 fun x y h1 h2 h3 h4 => ?_
  obtain ⟨s, g1, g2, g3⟩ := h12.inn x h1 h2
  obtain ⟨r, g4, g5, g6⟩ := h23.inn y h3 h4
  rw [g6, h12.out r (.inr g4), h23.out x (.inl h2), g3]
  exact hc s r g1 g2 g4 g5

/-! ### Blocks -/
/-- Each block of s places that begins at a multiple of s is sorted. -/
def SB (lt : α → α → Bool) (s n : Nat) (d : Nat → α) : Prop := ∀ c x y, c * s ≤ x → x < y → y < c * s + s → y < n → lt (d y) (d x) = false

/-- The state within one pass: the first k double blocks are sorted, behind them the single ones. -/
structure Pass (lt : α → α → Bool) (s n k : Nat) (d : Nat → α) : Prop where
  left : ∀ c x y, c < k → c * (2 * s) ≤ x → x < y → y < c * (2 * s) + 2 * s → lt (d y) (d x) = false
  right : ∀ c x y, 2 * k ≤ c → c * s ≤ x → x < y → y < c * s + s → y < n → lt (d y) (d x) = false

theorem Pass.start {lt : α → α → Bool} {s n : Nat} {d : Nat → α} (h : SB lt s n d) : Pass lt s n 0 d := ⟨fun c x y h1 => by omega, fun c x y _ => h c x y⟩

theorem two_mul_s (k s : Nat) : 2 * k * s = k * (2 * s) := by rw [Nat.mul_comm 2 k, Nat.mul_assoc]

theorem Pass.first {lt : α → α → Bool} {s n k : Nat} {d : Nat → α} (h : Pass lt s n k d) (e : Nat) (he : e ≤ n) (hes : e ≤ k * (2 * s) + s) : Sorted lt (k * (2 * s)) e d := by
  intro x y h1 h2 h3
  have e1 := two_mul_s k s
  exact h.right (2 * k) x y (Nat.le_refl _) (by omega) h2 (by omega) (by omega)

theorem Pass.second {lt : α → α → Bool} {s n k : Nat} {d : Nat → α} (h : Pass lt s n k d) (e : Nat) (he : e ≤ n) (hes : e ≤ k * (2 * s) + 2 * s) : Sorted lt (k * (2 * s) + s) e d := by
  intro x y h1 h2 h3
  have e1 := two_mul_s k s
  have e2 : (2 * k + 1) * s = 2 * k * s + s := Nat.succ_mul _ _
  exact h.right (2 * k + 1) x y (by omega) (by omega) h2 (by omega) (by omega)

theorem Pass.next {lt : α → α → Bool} {s n k : Nat} {d d' : Nat → α} (h : Pass lt s n k d) (hm : Mix (k * (2 * s)) (k * (2 * s) + 2 * s) n d d') (hs : Sorted lt (k * (2 * s)) (k * (2 * s) + 2 * s) d') : Pass lt s n (k + 1) d' := by
  refine ⟨fun c x y h1 h2 h3 h4 => ?_, fun c x y h1 h2 h3 h4 h5 => ?_⟩
  · by_cases e : c = k
    · subst e; exact hs x y h2 h3 h4
    · have q : (c + 1) * (2 * s) ≤ k * (2 * s) := Nat.mul_le_mul_right _ (by omega)
      rw [Nat.succ_mul] at q
      rw [hm.out x (.inl (by omega)), hm.out y (.inl (by omega))]
      exact h.left c x y (by omega) h2 h3 h4
  · have q : (2 * (k + 1)) * s ≤ c * s := Nat.mul_le_mul_right _ h1
    have e1 := two_mul_s (k + 1) s
    have e3 : (k + 1) * (2 * s) = k * (2 * s) + 2 * s := Nat.succ_mul _ _
    rw [hm.out x (.inr (by omega)), hm.out y (.inr (by omega))]
    exact h.right c x y (by omega) h2 h3 h4 h5

theorem Pass.done {lt : α → α → Bool} {s n k : Nat} {d d' : Nat → α} (h : Pass lt s n k d) (hm : Mix (k * (2 * s)) n n d d') (hs : Sorted lt (k * (2 * s)) n d') : SB lt (2 * s) n d' := by
  intro c x y h1 h2 h3 h4
  by_cases c1 : c < k
  · have q : (c + 1) * (2 * s) ≤ k * (2 * s) := Nat.mul_le_mul_right _ c1
    rw [Nat.succ_mul] at q
    rw [hm.out x (.inl (by omega)), hm.out y (.inl (by omega))]
    exact h.left c x y c1 h1 h2 h3
  · have q : k * (2 * s) ≤ c * (2 * s) := Nat.mul_le_mul_right _ (by omega)
    exact hs x y (by omega) h2 h4

theorem SB.all {lt : α → α → Bool} {s n : Nat} {d : Nat → α} (h : SB lt s n d) (hs : n ≤ s) : Sorted lt 0 n d := fun x y _ h2 h3 => h 0 x y (by omega) h2 (by omega) h3

/-! ### The rank -/
def posTo (lt : α → α → Bool) (d : Nat → α) (i : Nat) : Nat → Nat
  | 0 => 0
  | k + 1 => posTo lt d i k + (if lt (d k) (d i) = true then 1 else if k < i ∧ lt (d i) (d k) = false then 1 else 0)

theorem posTo_le (lt : α → α → Bool) (d : Nat → α) (i : Nat) : ∀ k, posTo lt d i k ≤ k
  | 0 => Nat.le_refl _
  | k + 1 => by
    have := posTo_le lt d i k
    simp only [posTo]
    split
    · omega
    · split <;> omega

theorem posTo_lo (lt : α → α → Bool) (d : Nat → α) (i : Nat) : ∀ k, cnt (fun x => lt x (d i)) d k ≤ posTo lt d i k
  | 0 => Nat.le_refl _
  | k + 1 => by
    have := posTo_lo lt d i k
    simp only [posTo, cnt]
    split
    · omega
    · omega

theorem posTo_hi {lt : α → α → Bool} (o : Ord lt) (d : Nat → α) (i : Nat) : ∀ k, posTo lt d i k + (if i < k then 1 else 0) ≤ cnt (fun x => !lt (d i) x) d k
  | 0 => by simp [posTo, cnt]
  | k + 1 => by
    have ih := posTo_hi o d i k
    simp only [posTo, cnt]
    by_cases e : k = i
    · subst e
      rw [if_neg (by rw [o.irr]; simp), if_neg (by omega), if_pos (by omega), if_pos (by rw [o.irr]; rfl)]
      rw [if_neg (by omega)] at ih
      omega
    · have e2 : (if i < k + 1 then (1 : Nat) else 0) = if i < k then 1 else 0 := by
        by_cases c : i < k
        · rw [if_pos c, if_pos (by omega)]
        · rw [if_neg c, if_neg (by omega)]
      rw [e2]
      by_cases c1 : lt (d k) (d i) = true
      · rw [if_pos c1, if_pos (show (!lt (d i) (d k)) = true by rw [o.asym _ _ c1]; rfl)]; omega
      · rw [if_neg c1]
        by_cases c2 : k < i ∧ lt (d i) (d k) = false
        · rw [if_pos c2, if_pos (show (!lt (d i) (d k)) = true by rw [c2.2]; rfl)]; omega
        · rw [if_neg c2]; omega

theorem cnt_ge (p : α → Bool) (d : Nat → α) (m : Nat) : ∀ n, m ≤ n → (∀ t, t < m → p (d t) = true) → m ≤ cnt p d n
  | 0, h, _ => by omega
  | n + 1, h, hp => by
    simp only [cnt]
    by_cases e : m = n + 1
    · have := cnt_ge p d n n (Nat.le_refl _) (fun t ht => hp t (by omega))
      rw [if_pos (hp n (by omega))]; omega
    · have := cnt_ge p d m n (by omega) hp
      omega

theorem cnt_le' (p : α → Bool) (d : Nat → α) : ∀ n, cnt p d n ≤ n
  | 0 => Nat.le_refl _
  | n + 1 => by
    have := cnt_le' p d n
    simp only [cnt]
    split <;> omega

theorem cnt_le (p : α → Bool) (d : Nat → α) (q : Nat) : ∀ n, (∀ t, q ≤ t → t < n → p (d t) = false) → cnt p d n ≤ q
  | 0, _ => by simp [cnt]
  | n + 1, hp => by
    have ih := cnt_le p d q n (fun t h1 h2 => hp t h1 (by omega))
    simp only [cnt]
    by_cases c : q ≤ n
    · rw [hp n c (by omega)]; simp; exact ih
    · have : cnt p d n ≤ n := cnt_le' p d n
      split <;> omega
/-- THE RANK: in the sorted array the place that the law reckons holds an element that is neither below nor above. -/
theorem rank {lt : α → α → Bool} (o : Ord lt) {n i : Nat} {d d' : Nat → α} (hb : ∀ p : α → Bool, cnt p d' n = cnt p d n) (hs : Sorted lt 0 n d') (hi : i < n) :
    posTo lt d i n < n ∧ lt (d' (posTo lt d i n)) (d i) = false ∧ lt (d i) (d' (posTo lt d i n)) = false := by
  have h1 := posTo_lo lt d i n
  have h2 := posTo_hi o d i n
  rw [if_pos hi] at h2
  have h3 : cnt (fun x => !lt (d i) x) d n ≤ n := cnt_le' _ _ _
  rw [← hb] at h1 h2 h3
  refine ⟨by omega, ?_, ?_⟩
  · cases e : lt (d' (posTo lt d i n)) (d i) with
    | false => rfl
    | true =>
      have := cnt_ge (fun x => lt x (d i)) d' (posTo lt d i n + 1) n (by omega) (fun t ht => o.le_lt (hs.le o t (posTo lt d i n) (by omega) (by omega) (by omega)) e)
      omega
  · cases e : lt (d i) (d' (posTo lt d i n)) with
    | false => rfl
    | true =>
      have := cnt_le (fun x => !lt (d i) x) d' (posTo lt d i n) n (fun t h4 h5 => by rw [o.lt_le e (hs.le o (posTo lt d i n) t (by omega) h4 h5)]; rfl)
      omega
end Go.Proofs.Youahw
