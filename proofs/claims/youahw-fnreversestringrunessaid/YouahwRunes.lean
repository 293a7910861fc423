/-
  PLAIN LAWS ON UTF-8, no Go text: what is encoded decodes to itself; '[]rune(s)' holds valid code points alone; '[]rune(string(rs))' is rs again where rs are valid.
-/
import Derived.Laws.Cover4
import Derived.Laws.IdiomStrings
namespace Go.Proofs.Youahw

/-- The code points of s, as '[]rune(s)' has them. -/
def runesGo (s : ByteArray) : Nat → Nat → List Int
  | 0, _ => []
  | n + 1, i => if i < s.size then Int.ofNat (Utf8.decode s i).1 :: runesGo s n (i + (Utf8.decode s i).2) else []
def runes (s : ByteArray) : List Int := runesGo s s.size 0

theorem runesFrom_eq (s : ByteArray) : ∀ (n i : Nat) (acc : Array Value), Conv.runesFrom s n i acc = acc ++ ((runesGo s n i).map (Value.int .i32)).toArray
  | 0, i, acc => by simp [Conv.runesFrom, runesGo]
  | n + 1, i, acc => by
    unfold Conv.runesFrom runesGo
    split
    · show Conv.runesFrom s n (i + (Utf8.decode s i).2) (acc.push (.int .i32 (Int.ofNat (Utf8.decode s i).1))) = _
      rw [runesFrom_eq s n]
      simp
    · simp

theorem runesFrom_runes (s : ByteArray) : Conv.runesFrom s s.size 0 #[] = ((runes s).map (Value.int .i32)).toArray := by
  rw [runesFrom_eq]; simp [runes]

theorem runesGo_len (s : ByteArray) : ∀ n i, (runesGo s n i).length ≤ n
  | 0, _ => by simp [runesGo]
  | n + 1, i => by
    unfold runesGo
    split
    · have := runesGo_len s n (i + (Utf8.decode s i).2)
      simp; omega
    · simp

theorem runes_len (s : ByteArray) : (runes s).length ≤ s.size := runesGo_len s _ _

theorem decode_valid (s : ByteArray) (i : Nat) : Utf8.valid (Int.ofNat (Utf8.decode s i).1) = true := by
  have he : Utf8.valid (Int.ofNat Utf8.runeError) = true := by decide
  have hsm : ∀ n : Nat, n < 2048 → Utf8.valid (Int.ofNat n) = true := by
    intro n hn
    unfold Utf8.valid
    simp; omega
  unfold Utf8.decode
  simp only
  split
  · exact hsm _ (by omega)
  · split
    · split
      · exact hsm _ (by omega)
      · exact he
    · split
      · split
        · rename_i h; simp only [Bool.and_eq_true] at h; exact h.2
        · exact he
      · split
        · split
          · rename_i h; simp only [Bool.and_eq_true] at h; exact h.2
          · exact he
        · exact he

theorem runesGo_valid (s : ByteArray) : ∀ n i, ∀ r ∈ runesGo s n i, Utf8.valid r = true
  | 0, _ => by simp [runesGo]
  | n + 1, i => by
    unfold runesGo
    split
    · intro r hr
      rcases List.mem_cons.1 hr with rfl | hr
      · exact decode_valid s i
      · exact runesGo_valid s n _ r hr
    · simp

theorem runes_valid (s : ByteArray) : ∀ r ∈ runes s, Utf8.valid r = true := runesGo_valid s _ _

/-- The bytes of a list of code points. -/
def enc (ns : List Int) : List UInt8 := ns.flatMap fun n => (Utf8.encode n).data.toList

theorem foldl_enc : ∀ (ns : List Int) (s : ByteArray), (ns.foldl (fun r n => r ++ Utf8.encode n) s).data.toList = s.data.toList ++ enc ns
  | [], s => by simp [enc]
  | n :: ns, s => by
    rw [List.foldl_cons, foldl_enc ns]
    simp [enc, ByteArray.data_append]

theorem runesBytes_enc (ns : List Int) : (runesBytes ns).data.toList = enc ns := by
  unfold runesBytes
  rw [foldl_enc]
  simp

theorem get!_of (s : ByteArray) (pre mid : List UInt8) (h : s.data.toList = pre ++ mid) (k : Nat) (hk : k < mid.length) : s.get! (pre.length + k) = mid[k] := by
  have h1 : s.get! (pre.length + k) = s.data.toList[pre.length + k]! := by
    show s.data[pre.length + k]! = _
    simp [Array.getElem!_eq_getD]
  rw [h1, h]
  simp [hk]

theorem size_of (s : ByteArray) (l : List UInt8) (h : s.data.toList = l) : s.size = l.length := by
  exact (Array.length_toList).symm.trans (congrArg List.length h)

/-- What is encoded decodes to itself. -/
theorem decode_enc (s : ByteArray) (pre post : List UInt8) (r : Int) (hv : Utf8.valid r = true) (h : s.data.toList = pre ++ ((Utf8.encode r).data.toList ++ post)) :
    Utf8.decode s pre.length = (r.toNat, (Utf8.encode r).size) := by
  obtain ⟨c, rfl⟩ : ∃ c : Nat, r = (c : Int) := ⟨r.toNat, by unfold Utf8.valid at hv; simp at hv; omega⟩
  have hc : c < 55296 ∨ (57344 ≤ c ∧ c ≤ 1114111) := by unfold Utf8.valid at hv; simp at hv; omega
  have hz := size_of s _ h
  simp only [List.length_append] at hz
  have g := get!_of s pre _ h
  simp only [List.length_append] at g
  unfold Utf8.encode at h g hz ⊢
  simp only [hv, if_true, Int.toNat_natCast] at h g hz ⊢
  by_cases h1 : c < 128
  · simp only [h1, if_true] at h g hz ⊢
    have g0 := g 0 (by simp; omega)
    simp at g0
    unfold Utf8.decode
    simp only [Nat.add_zero, g0]
    rw [if_pos (by simp; omega)]
    simp [ByteArray.size]; omega
  · by_cases h2 : c < 2048
    · simp only [h1, h2, if_true, if_false] at h g hz ⊢
      have g0 : s.get! (pre.length + 0) = UInt8.ofNat (192 + c / 64) := (g 0 (by simp; omega)).trans rfl
      have g1 : s.get! (pre.length + 1) = UInt8.ofNat (128 + c % 64) := (g 1 (by simp; omega)).trans rfl
      simp at hz
      unfold Utf8.decode
      simp only [g0, g1]
      have e0 : (UInt8.ofNat (192 + c / 64)).toNat = 192 + c / 64 := by simp; omega
      have e1 : (UInt8.ofNat (128 + c % 64)).toNat = 128 + c % 64 := by simp; omega
      simp only [e0, e1]
      rw [if_neg (by omega), if_pos (by simp; omega), if_pos (by omega)]
      simp [ByteArray.size]; omega
    · by_cases h3 : c < 65536
      · simp only [h1, h2, h3, if_true, if_false] at h g hz ⊢
        have g0 : s.get! (pre.length + 0) = UInt8.ofNat (224 + c / 4096) := (g 0 (by simp; omega)).trans rfl
        have g1 : s.get! (pre.length + 1) = UInt8.ofNat (128 + c / 64 % 64) := (g 1 (by simp; omega)).trans rfl
        have g2 : s.get! (pre.length + 2) = UInt8.ofNat (128 + c % 64) := (g 2 (by simp; omega)).trans rfl
        simp at hz
        unfold Utf8.decode
        simp only [g0, g1, g2]
        have e0 : (UInt8.ofNat (224 + c / 4096)).toNat = 224 + c / 4096 := by simp; omega
        have e1 : (UInt8.ofNat (128 + c / 64 % 64)).toNat = 128 + c / 64 % 64 := by simp; omega
        have e2 : (UInt8.ofNat (128 + c % 64)).toNat = 128 + c % 64 := by simp; omega
        simp only [e0, e1, e2]
        have ev : (224 + c / 4096) % 16 * 4096 + (128 + c / 64 % 64) % 64 * 64 + (128 + c % 64) % 64 = c := by omega
        rw [if_neg (by omega), if_neg (by simp; omega), if_pos (by simp; omega)]
        simp only [ev, hv]
        rw [if_pos (by simp; omega)]
        simp [ByteArray.size]
      · simp only [h1, h2, h3, if_false] at h g hz ⊢
        have g0 : s.get! (pre.length + 0) = UInt8.ofNat (240 + c / 262144) := (g 0 (by simp; omega)).trans rfl
        have g1 : s.get! (pre.length + 1) = UInt8.ofNat (128 + c / 4096 % 64) := (g 1 (by simp; omega)).trans rfl
        have g2 : s.get! (pre.length + 2) = UInt8.ofNat (128 + c / 64 % 64) := (g 2 (by simp; omega)).trans rfl
        have g3 : s.get! (pre.length + 3) = UInt8.ofNat (128 + c % 64) := (g 3 (by simp; omega)).trans rfl
        simp at hz
        unfold Utf8.decode
        simp only [g0, g1, g2, g3]
        have e0 : (UInt8.ofNat (240 + c / 262144)).toNat = 240 + c / 262144 := by simp; omega
        have e1 : (UInt8.ofNat (128 + c / 4096 % 64)).toNat = 128 + c / 4096 % 64 := by simp; omega
        have e2 : (UInt8.ofNat (128 + c / 64 % 64)).toNat = 128 + c / 64 % 64 := by simp; omega
        have e3 : (UInt8.ofNat (128 + c % 64)).toNat = 128 + c % 64 := by simp; omega
        simp only [e0, e1, e2, e3]
        have ev : (240 + c / 262144) % 8 * 262144 + (128 + c / 4096 % 64) % 64 * 4096 + (128 + c / 64 % 64) % 64 * 64 + (128 + c % 64) % 64 = c := by omega
        rw [if_neg (by omega), if_neg (by simp; omega), if_neg (by simp; omega), if_pos (by simp; omega)]
        simp only [ev, hv]
        rw [if_pos (by simp; omega)]
        simp [ByteArray.size]

theorem encode_pos (r : Int) : 0 < (Utf8.encode r).size := by
  unfold Utf8.encode
  simp only
  repeat' split
  all_goals simp [ByteArray.size]

theorem runesGo_enc (s : ByteArray) : ∀ (ns : List Int) (pre : List UInt8) (n : Nat), (∀ r ∈ ns, Utf8.valid r = true) → s.data.toList = pre ++ enc ns → (enc ns).length ≤ n → runesGo s n pre.length = ns
  | [], pre, n, _, h, _ => by
    have hz := size_of s _ h
    simp [enc] at hz
    cases n with
    | zero => rfl
    | succ n => unfold runesGo; rw [if_neg (by omega)]
  | r :: ns, pre, n, hv, h, hn => by
    have he : enc (r :: ns) = (Utf8.encode r).data.toList ++ enc ns := by simp [enc]
    rw [he] at h hn
    have hp := encode_pos r
    have hs2 : (Utf8.encode r).data.toList.length = (Utf8.encode r).size := Array.length_toList
    rw [List.length_append, hs2] at hn
    have hz := size_of s _ h
    rw [List.length_append, List.length_append, hs2] at hz
    obtain ⟨m, rfl⟩ : ∃ m, n = m + 1 := ⟨n - 1, by omega⟩
    have hr := hv r (List.mem_cons_self ..)
    have hd := decode_enc s pre (enc ns) r hr h
    unfold runesGo
    rw [if_pos (by omega), hd]
    have ih := runesGo_enc s ns (pre ++ (Utf8.encode r).data.toList) m (fun x hx => hv x (List.mem_cons_of_mem _ hx)) (by rw [h]; simp) (by omega)
    rw [List.length_append, hs2] at ih
    simp only [ih]
    congr 1
    unfold Utf8.valid at hr; simp at hr; simp; omega

/-- '[]rune(string(ns))' IS ns. -/
theorem runes_runesBytes (ns : List Int) (hv : ∀ r ∈ ns, Utf8.valid r = true) : runes (runesBytes ns) = ns := by
  have h := runesBytes_enc ns
  have hz := size_of _ _ h
  unfold runes
  rw [hz]
  exact runesGo_enc _ ns [] _ hv (by simpa using h) (Nat.le_refl _)

#print axioms runes_runesBytes
end Go.Proofs.Youahw
