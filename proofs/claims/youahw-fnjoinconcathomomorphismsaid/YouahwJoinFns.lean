/-
  PLAIN LAWS ON JOINING: no Go text.
-/
import Derived.Lib.Join
import Derived.Test.YouahwStrs
namespace Go.Proofs.Youahw
open Go.Lib

/-- The bytes of a string. -/
abbrev bs (s : ByteArray) : List UInt8 := s.data.toList
theorem bs_len (s : ByteArray) : (bs s).length = s.size := Array.length_toList

/-- The first k strings, gathered from the left. -/
def jl (sep : List UInt8) (g : Nat → ByteArray) : Nat → List UInt8
  | 0 => []
  | k + 1 => jl sep g k ++ (if k = 0 then [] else sep) ++ bs (g k)

/-- The first k strings, as a list. -/
def upTo (g : Nat → ByteArray) (k : Nat) : List ByteArray := (List.range k).map g

theorem upTo_len (g : Nat → ByteArray) (k : Nat) : (upTo g k).length = k := by simp [upTo]
theorem upTo_succ (g : Nat → ByteArray) (k : Nat) : upTo g (k + 1) = upTo g k ++ [g k] := by simp [upTo, List.range_succ]
theorem upTo_get (g : Nat → ByteArray) (n j : Nat) (x : ByteArray) (h : (upTo g n)[j]? = some x) : j < n ∧ x = g j := by
  unfold upTo at h
  rw [List.getElem?_map, Option.map_eq_some_iff] at h
  obtain ⟨k, hk, rfl⟩ := h
  obtain ⟨h3, h4⟩ := List.getElem?_eq_some_iff.1 hk
  simp at h3 h4
  subst h4
  exact ⟨h3, rfl⟩

theorem join_snoc (xs : List (List UInt8)) (y sep : List UInt8) : join (xs ++ [y]) sep = join xs sep ++ (if xs = [] then [] else sep) ++ y := by
  cases xs with
  | nil => simp [join_one, join_nil]
  | cons x r =>
    rw [List.cons_append, join_cons, join_cons, if_neg (by simp)]
    simp [joinTail]

theorem join_upTo (sep : List UInt8) (g : Nat → ByteArray) : ∀ k, join ((upTo g k).map (·.data.toList)) sep = jl sep g k
  | 0 => by simp [upTo, jl, join_nil]
  | k + 1 => by
    rw [upTo_succ, List.map_append, List.map_cons, List.map_nil, join_snoc, join_upTo sep g k]
    have e : ((upTo g k).map (·.data.toList) = []) ↔ k = 0 := by
      rw [← List.length_eq_zero_iff]; simp [upTo]
    simp only [e]
    rfl

theorem jl_len (sep : List UInt8) (g : Nat → ByteArray) : ∀ k, (jl sep g k).length ≤ sz g k + k * sep.length
  | 0 => by simp [jl]
  | k + 1 => by
    have h := jl_len sep g k
    have hb := bs_len (g k)
    simp only [jl, List.length_append, hb, sz, Nat.succ_mul]
    split
    · simp; omega
    · omega

theorem sz_mono (g : Nat → ByteArray) (k : Nat) : ∀ d, sz g k ≤ sz g (k + d)
  | 0 => Nat.le_refl _
  | d + 1 => by have := sz_mono g k d; rw [← Nat.add_assoc, sz]; omega

/-- The join of more begins with the join of fewer. -/
theorem jl_prefix (sep : List UInt8) (g : Nat → ByteArray) (k : Nat) : ∀ d, ∃ r, jl sep g (k + d) = jl sep g k ++ r
  | 0 => ⟨[], by simp⟩
  | d + 1 => by
    obtain ⟨r, hr⟩ := jl_prefix sep g k d
    refine ⟨r ++ (if k + d = 0 then [] else sep) ++ bs (g (k + d)), ?_⟩
    rw [← Nat.add_assoc, jl, hr]
    simp

/-- A join of a sequel: g behind f's n. -/
theorem jl_append (sep : List UInt8) (f g : Nat → ByteArray) (n : Nat) (hn : 0 < n) : ∀ m, 0 < m → jl sep (fun t => if t < n then f t else g (t - n)) (n + m) = jl sep f n ++ sep ++ jl sep g m
  | 0, h => by omega
  | 1, _ => by
    have hf : ∀ k, k ≤ n → jl sep (fun t => if t < n then f t else g (t - n)) k = jl sep f k := by
      intro k
      induction k with
      | zero => intro _; rfl
      | succ k ih => intro hk; simp only [jl]; rw [ih (by omega), if_pos (show k < n by omega)]
    simp only [jl]
    rw [hf n (Nat.le_refl _), if_neg (show ¬ n = 0 by omega), if_neg (show ¬ n < n by omega), Nat.sub_self]
    simp
  | m + 2, _ => by
    have ih := jl_append sep f g n hn (m + 1) (by omega)
    rw [← Nat.add_assoc] at ih
    rw [← Nat.add_assoc, jl, ih, if_neg (by omega), if_neg (by omega)]
    have e2 : jl sep g (m + 2) = jl sep g (m + 1) ++ sep ++ bs (g (m + 1)) := by rw [jl, if_neg (show ¬ m + 1 = 0 by omega)]
    rw [e2]
    rw [show n + m + 1 - n = m + 1 by omega]
    simp

/-- The join as a string. -/
def joinS (sep : ByteArray) (g : Nat → ByteArray) (n : Nat) : ByteArray := ⟨(jl (bs sep) g n).toArray⟩
theorem joinS_bs (sep : ByteArray) (g : Nat → ByteArray) (n : Nat) : bs (joinS sep g n) = jl (bs sep) g n := by simp [bs, joinS]
theorem joinS_size (sep : ByteArray) (g : Nat → ByteArray) (n : Nat) : (joinS sep g n).size = (jl (bs sep) g n).length := by rw [← bs_len, joinS_bs]
theorem joinS_zero (sep : ByteArray) (g : Nat → ByteArray) : joinS sep g 0 = ⟨#[]⟩ := by simp [joinS, jl]
theorem joinS_eq (sep : ByteArray) (g : Nat → ByteArray) (n : Nat) : (⟨(join ((upTo g n).map (·.data.toList)) sep.data.toList).toArray⟩ : ByteArray) = joinS sep g n := by rw [join_upTo]; rfl

theorem joinS_concat (sep : ByteArray) (f g : Nat → ByteArray) (n m : Nat) (hn : 0 < n) (hm : 0 < m) :
    joinS sep (fun t => if t < n then f t else g (t - n)) (n + m) = joinS sep f n ++ sep ++ joinS sep g m := by
  have e : ∀ a b : ByteArray, bs a = bs b → a = b := by
    intro a b h
    cases a; cases b
    simp [bs] at h
    rw [h]
  apply e
  rw [joinS_bs, jl_append (bs sep) f g n hn m hm]
  simp only [bs, ByteArray.data_append, Array.toList_append]
  rw [← joinS_bs, ← joinS_bs]
end Go.Proofs.Youahw
