/-
  THE WALKS OF zzHasAt, zzJoinLayout.
-/
import Derived.Test.YouahwJoinFns
import Derived.Test.YouahwMake
import Derived.BigQuiet
import Derived.Deep.QuietTactic
import Derived.RegionTactic
import Derived.BigRegion
namespace Go.Proofs.Youahw
open Go.RowKit

theorem index_str (s : ByteArray) (j : Int) (i : Nat) (hj : j = i) (hi : i < s.size) (W : World) : (Instr.index 9 (.string s) (.int .i64 j)).run Uahg.prog W = .ok (.int .u8 (s[i].toNat : Int)) W := by
  subst hj
  rw [run_index_string W 9 s .i64 i Uahg.underlying9, dif_pos ⟨by omega, by omega⟩]
  rfl

set_option maxHeartbeats 400000 in
theorem hasAt26 (s p : ByteArray) (pos : Nat) (w : World) (hp : pos + p.size ≤ s.size) (hs : s.size ≤ 4611686018427387904) (hb : ∀ i (h : i < p.size), s[pos + i]'(by omega) = p[i]) :
    Calls Uahg.prog 26 #[.string s, .int .i64 pos, .string p] w fun e w' => e = .returned (.bool true) ∧ Below w.heap.size w w' := by
  have HB : Hid (∀ i (h : i < p.size), s[pos + i]'(by omega) = p[i]) := hb
  have g1 : decide ((pos : Int) < 0) = false := decide_eq_false (by omega)
  have g2 : decide ((s.size : Int) < pos) = false := decide_eq_false (by omega)
  have g3 : decide ((s.size : Int) - pos < p.size) = false := decide_eq_false (by omega)
  clear hb
  go_enter Uahg.func26, Uahg.ntmps26
  go_wp2_with fail
  go_loopw [7] (fun i wr => ∃ k : Nat, k ≤ p.size ∧ i = .int .i64 k ∧ Below w.heap.size w wr) (fun i _ => p.size - (intOf i).toNat)
  case atStart => exact ⟨0, by omega, rfl, Below.refl _ _⟩
  case round =>
    obtain ⟨k, hk, rfl, hB⟩ := hrel
    by_cases hlt : k < p.size
    · have hi1 : (k : Int) < p.size := by omega
      have hi2 : (pos : Int) + k < s.size := by omega
      have hi3 : pos + k < s.size := by omega
      have x1 := index_str s ((pos : Int) + k) (pos + k) (by omega) hi3
      have x2 := index_str p (k : Int) k rfl hlt
      rw [HB.out k hlt] at x1
      generalize p[k] = c at x1 x2
      go_wp2_with fail
      go_region
      go_wp2
      go_roundw
      case rel => exact ⟨k + 1, by omega, by go_num, hB.drew⟩
      case measure => simp [intOf]; omega
    · go_wp2
      go_ret
      exact ⟨rfl, hB⟩

theorem bs_get (s : ByteArray) (i : Nat) (h : i < s.size) : (bs s)[i]? = some s[i] := by
  have h2 : i < s.data.size := h
  simp only [bs, Array.getElem?_toList]
  rw [Array.getElem?_eq_getElem h2]
  rfl

theorem hasAt26l (s p : ByteArray) (pre post : List UInt8) (pos : Int) (w : World) (hpos : pos = (pre.length : Nat)) (h : bs s = pre ++ (bs p ++ post)) (hs : s.size ≤ 4611686018427387904) :
    Calls Uahg.prog 26 #[.string s, .int .i64 pos, .string p] w fun e w' => e = .returned (.bool true) ∧ Below w.heap.size w w' := by
  have hz : s.size = pre.length + (p.size + post.length) := by rw [← bs_len s, h]; simp
  subst hpos
  refine hasAt26 s p pre.length w (by omega) hs fun i hi => ?_
  have e1 := bs_get s (pre.length + i) (by omega)
  have e2 := bs_get p i hi
  rw [h, List.getElem?_append_right (by omega), Nat.add_sub_cancel_left, List.getElem?_append_left (by rw [bs_len]; exact hi), e2] at e1
  exact (Option.some.inj e1).symm

set_option maxHeartbeats 400000 in
theorem layout18 (n b cap : Nat) (sep : ByteArray) (g : Nat → ByteArray) (w : World) (hn : n ≤ 4194304) (hl : (joinS sep g n).size ≤ 140737488355328) (hR : Row w b n fun t => .string (g t)) :
    Calls Uahg.prog 18 #[.string (joinS sep g n), .string sep, .slice (some ⟨b, 0, none⟩) n cap] w fun e w' => e = .returned (.bool true) ∧ Below w.heap.size w w' := by
  have hbl := hR.lt
  have HJ : Hid (bs (joinS sep g n) = jl (bs sep) g n) := joinS_bs sep g n
  have HZ : Hid ((joinS sep g n).size = (jl (bs sep) g n).length) := joinS_size sep g n
  generalize joinS sep g n = res at *
  go_enter Uahg.func18, Uahg.ntmps18
  go_wp2_with fail
  go_loopw [7, 8] (fun p i wr => ∃ k : Nat, k ≤ n ∧ i = .int .i64 k ∧ p = .int .i64 ((jl (bs sep) g k).length : Nat) ∧ Below w.heap.size w wr) (fun _ i _ => n - (intOf i).toNat)
  case atStart => exact ⟨0, by omega, rfl, by simp [jl], Below.refl _ _⟩
  case round =>
    obtain ⟨k, hk, rfl, rfl, hB⟩ := hrel
    by_cases hlt : k < n
    · obtain ⟨r, hr⟩ := jl_prefix (bs sep) g (k + 1) (n - (k + 1))
      rw [show k + 1 + (n - (k + 1)) = n by omega, ← HJ.out] at hr
      have HE : Hid (jl (bs sep) g (k + 1) = jl (bs sep) g k ++ (if k = 0 then [] else bs sep) ++ bs (g k)) := rfl
      rw [HE.out] at hr
      have hz : res.size = (bs res).length := (bs_len res).symm
      rw [hr] at hz
      simp only [List.length_append, bs_len] at hz
      have hle : (jl (bs sep) g k).length + (g k).size ≤ res.size := by omega
      have hcell := (hR.below hB hbl).cell k hlt
      have HR : Hid (bs res = jl (bs sep) g k ++ (if k = 0 then [] else bs sep) ++ bs (g k) ++ r) := hr
      by_cases hk0 : k = 0
      · subst hk0
        have HR2 : Hid (bs res = [] ++ (bs (g 0) ++ r)) := by have := HR.out; simpa [jl, Hid] using this
        have HE2 : Hid ((jl (bs sep) g 1).length = (g 0).size) := by show _ = _; rw [HE.out]; simp [jl]
        have e0 : (jl (bs sep) g 0).length = 0 := rfl
        clear hr HR HE hz
        go_wp2_with fail
        refine (hasAt26l res (g 0) [] r _ _ (by simp) HR2.out (by omega)).mono ?_
        rintro e w2 ⟨rfl, hB2⟩
        have hB3 : Below w.heap.size w w2 := Below.step hB hB.size hB2
        have hcell2 := (hR.below hB3 hbl).cell 0 hlt
        have HB3 : Hid (Below w.heap.size w w2) := hB3
        clear hB3 hB hB2 hcell HR2
        go_wp2
        go_roundw
        case rel => exact ⟨1, by omega, by go_num, by rw [HE2.out], HB3.out⟩
        case measure => simp [intOf]; omega
      · have HR2 : Hid (bs res = jl (bs sep) g k ++ (bs sep ++ (bs (g k) ++ r))) := by have := HR.out; rw [if_neg hk0] at this; simpa [Hid] using this
        have HR3 : Hid (bs res = (jl (bs sep) g k ++ bs sep) ++ (bs (g k) ++ r)) := by have := HR2.out; simpa [Hid] using this
        have HE2 : Hid ((jl (bs sep) g (k + 1)).length = (jl (bs sep) g k).length + sep.size + (g k).size) := by show _ = _; rw [HE.out, if_neg hk0]; simp only [List.length_append, bs_len]
        have hle2 : (jl (bs sep) g k).length + sep.size + (g k).size ≤ res.size := by rw [if_neg hk0, bs_len] at hz; omega
        have hpos : (0 : Int) < k := by omega
        have HP : Hid ((jl (bs sep) g k ++ bs sep).length = (jl (bs sep) g k).length + sep.size) := by show _ = _; rw [List.length_append, bs_len]
        clear hr HR HE hz
        go_wp2_with fail
        refine (hasAt26l res sep (jl (bs sep) g k) (bs (g k) ++ r) _ _ rfl HR2.out (by omega)).mono ?_
        rintro e w2 ⟨rfl, hB2⟩
        have hB3 : Below w.heap.size w w2 := Below.step hB hB.size hB2
        have hcell2 := (hR.below hB3 hbl).cell k hlt
        clear hB hB2 hcell HR2
        go_wp2_with fail
        refine (hasAt26l res (g k) (jl (bs sep) g k ++ bs sep) r _ _ (by rw [HP.out]; simp) HR3.out (by omega)).mono ?_
        rintro e w4 ⟨rfl, hB4⟩
        have hB5 : Below w.heap.size w w4 := Below.step hB3 hB3.size hB4
        have hcell4 := (hR.below hB5 hbl).cell k hlt
        have HB5 : Hid (Below w.heap.size w w4) := hB5
        clear hB3 hB4 hB5 hcell2 HR3 HP
        go_wp2
        go_roundw
        case rel => exact ⟨k + 1, by omega, by go_num, by rw [HE2.out]; go_num, HB5.out⟩
        case measure => simp [intOf]; omega
    · have hkn : k = n := by omega
      subst hkn
      have hz := HZ.out
      rw [← hz]
      clear HZ
      go_wp2
      go_ret
      exact ⟨rfl, hB⟩
end Go.Proofs.Youahw
