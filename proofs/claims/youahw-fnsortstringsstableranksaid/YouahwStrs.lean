/-
  A SLICE OF STRINGS THAT IS READ: what it holds; the walks of the three counters 'zzStrBytes', 'zzBytes_FnReverseArrayExact', 'zzBytes_FnSortStringsStableRank'.
-/
import Derived.Test.YouahwRows
import Derived.Test.YouahwRow
import Derived.Test.YouahwAssert
import Derived.WalkSpells
import Derived.WalkLawsBesides
import Derived.LoopN
namespace Go.Proofs.Youahw
open Go.RowKit

/-- The slice 'ao' of n elements holds the strings g 0, .., g (n - 1). -/
def Strs (w : World) (ao : Option Addr) (n : Nat) (g : Nat → ByteArray) : Prop :=
  n = 0 ∨ ∃ b off, ao = some ⟨b, off, none⟩ ∧ ∀ t, t < n → w.cell? ⟨b, off + t, none⟩ = some (.string (g t))

/-- The sum of the lengths of the first k strings. -/
def sz (g : Nat → ByteArray) : Nat → Nat
  | 0 => 0
  | k + 1 => sz g k + (g k).size

/-- A test that answers true only where p holds, and turns nothing. -/
def Tests (p : Prop) (w : World) (e : Ending) (w' : World) : Prop := (e = .returned (.bool true) ∧ p ∧ w = w') ∨ (e = .returned (.bool false) ∧ w = w')
theorem Tests.yes {p : Prop} {w : World} (h : p) : Tests p w (.returned (.bool true)) w := .inl ⟨rfl, h, rfl⟩
theorem Tests.no {p : Prop} {w : World} : Tests p w (.returned (.bool false)) w := .inr ⟨rfl, rfl⟩

theorem strBytes14 (ao : Option Addr) (n cap : Nat) (g : Nat → ByteArray) (w : World) (hn : n ≤ 1048576) (h : Strs w ao n g) :
    Calls Uahg.prog 14 #[.slice ao n cap] w fun e w' => ∃ t : Int, e = .returned (.int .i64 t) ∧ 0 ≤ t ∧ t ≤ 4194304 ∧ (t ≤ 1048576 → t = 16 * n + sz g n) ∧ w = w' := by
  by_cases h0 : n = 0
  · subst h0
    clear h
    go_enter Uahg.func14, Uahg.ntmps14
    go_wp2
    refine wp_loop_rounds 1 ?_
    rw [rounds_succ]
    go_wp2
    go_ret
    exact ⟨0, rfl, by omega, by omega, fun _ => by simp [sz], rfl⟩
  · rcases h with h | ⟨b, off, rfl, hc⟩
    · exact absurd h h0
    have HC : Hid (∀ t, t < n → w.cell? ⟨b, off + t, none⟩ = some (.string (g t))) := hc
    clear hc
    go_enter Uahg.func14, Uahg.ntmps14
    go_wp2
    go_loop [3, 4] (fun t i => ∃ k : Nat, k ≤ n ∧ i = .int .i64 k ∧ 16 * k + sz g k ≤ 1048576 ∧ t = .int .i64 ((16 * k + sz g k : Nat) : Int)) (fun _ i => n - (intOf i).toNat)
    case atStart => exact ⟨0, by omega, rfl, by simp [sz], by simp [sz]⟩
    case round =>
      obtain ⟨k, hk, rfl, hs, rfl⟩ := hrel
      by_cases hlt : k < n
      · have c1 := HC.out k hlt
        have HS : Hid (sz g (k + 1) = sz g k + (g k).size) := rfl
        generalize sz g k = S at *
        by_cases hbig : 1048576 < (g k).size
        · go_wp2
          go_ret
          exact ⟨1048577, rfl, by omega, by omega, fun h => by omega, rfl⟩
        · by_cases hsum : 1048576 < 16 * k + S + (16 + (g k).size)
          · go_wp2
            go_ret
            exact ⟨_, rfl, by omega, by omega, fun h => by omega, rfl⟩
          · go_wp2
            go_round
            case rel => exact ⟨k + 1, by omega, by go_num, by rw [HS.out]; omega, by rw [HS.out]; go_num⟩
            case measure => simp [intOf]; omega
      · have : k = n := by omega
        subst this
        go_wp2
        go_ret
        exact ⟨_, rfl, by omega, by omega, fun h => by omega, rfl⟩

theorem bytes22 (ao : Option Addr) (n cap : Nat) (g : Nat → ByteArray) (w : World) (hm : n ≤ maxLen) (h : Strs w ao n g) :
    Calls Uahg.prog 22 #[.slice ao n cap] w fun e w' => Tests (n + sz g n ≤ 1048576) w e w' := by
  unfold maxLen at hm
  by_cases h0 : n = 0
  · subst h0
    clear h
    go_enter Uahg.func22, Uahg.ntmps22
    go_wp2
    refine wp_loop_rounds 1 ?_
    rw [rounds_succ]
    go_wp2
    go_ret
    exact Tests.yes (by simp [sz])
  · rcases h with h | ⟨b, off, rfl, hc⟩
    · exact absurd h h0
    have HC : Hid (∀ t, t < n → w.cell? ⟨b, off + t, none⟩ = some (.string (g t))) := hc
    clear hc
    by_cases hbig : 1048576 < n
    · go_enter Uahg.func22, Uahg.ntmps22
      go_wp2
      go_ret
      exact Tests.no
    go_enter Uahg.func22, Uahg.ntmps22
    go_wp2
    go_loop [3, 4] (fun t i => ∃ k : Nat, k ≤ n ∧ i = .int .i64 k ∧ n + sz g k ≤ 1048576 ∧ t = .int .i64 ((n + sz g k : Nat) : Int)) (fun _ i => n - (intOf i).toNat)
    case atStart => exact ⟨0, by omega, rfl, by simp [sz]; omega, by simp [sz]⟩
    case round =>
      obtain ⟨k, hk, rfl, hs, rfl⟩ := hrel
      by_cases hlt : k < n
      · have c1 := HC.out k hlt
        have HS : Hid (sz g (k + 1) = sz g k + (g k).size) := rfl
        generalize sz g k = S at *
        by_cases hbg : 1048576 < (g k).size
        · go_wp2
          go_ret
          exact Tests.no
        · by_cases hsum : 1048576 < n + S + (g k).size
          · go_wp2
            go_ret
            exact Tests.no
          · go_wp2
            go_round
            case rel => exact ⟨k + 1, by omega, by go_num, by rw [HS.out]; omega, by rw [HS.out]; go_num⟩
            case measure => simp [intOf]; omega
      · have : k = n := by omega
        subst this
        go_wp2
        go_ret
        exact Tests.yes trivial

theorem bytes13 (ao : Option Addr) (n cap : Nat) (g : Nat → ByteArray) (w : World) (hm : n ≤ maxLen) (h : Strs w ao n g) :
    Calls Uahg.prog 13 #[.slice ao n cap] w fun e w' => Tests (n + sz g n ≤ 1048576) w e w' := by
  unfold maxLen at hm
  by_cases h0 : n = 0
  · subst h0
    clear h
    go_enter Uahg.func13, Uahg.ntmps13
    go_wp2
    refine wp_loop_rounds 1 ?_
    rw [rounds_succ]
    go_wp2
    go_ret
    exact Tests.yes (by simp [sz])
  · rcases h with h | ⟨b, off, rfl, hc⟩
    · exact absurd h h0
    have HC : Hid (∀ t, t < n → w.cell? ⟨b, off + t, none⟩ = some (.string (g t))) := hc
    clear hc
    by_cases hbig : 1048576 < n
    · go_enter Uahg.func13, Uahg.ntmps13
      go_wp2
      go_ret
      exact Tests.no
    go_enter Uahg.func13, Uahg.ntmps13
    go_wp2
    go_loop [3, 4] (fun t i => ∃ k : Nat, k ≤ n ∧ i = .int .i64 k ∧ n + sz g k ≤ 1048576 ∧ t = .int .i64 ((n + sz g k : Nat) : Int)) (fun _ i => n - (intOf i).toNat)
    case atStart => exact ⟨0, by omega, rfl, by simp [sz]; omega, by simp [sz]⟩
    case round =>
      obtain ⟨k, hk, rfl, hs, rfl⟩ := hrel
      by_cases hlt : k < n
      · have c1 := HC.out k hlt
        have HS : Hid (sz g (k + 1) = sz g k + (g k).size) := rfl
        generalize sz g k = S at *
        by_cases hbg : 1048576 < (g k).size
        · go_wp2
          go_ret
          exact Tests.no
        · by_cases hsum : 1048576 < n + S + (g k).size
          · go_wp2
            go_ret
            exact Tests.no
          · go_wp2
            go_round
            case rel => exact ⟨k + 1, by omega, by go_num, by rw [HS.out]; omega, by rw [HS.out]; go_num⟩
            case measure => simp [intOf]; omega
      · have : k = n := by omega
        subst this
        go_wp2
        go_ret
        exact Tests.yes trivial
end Go.Proofs.Youahw
