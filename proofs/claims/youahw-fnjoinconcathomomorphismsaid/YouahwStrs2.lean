/-
  THE WALKS OF THE COUNTERS 'zzBytes_FnJoinExactLayout', 'zzBytes_FnJoinConcatHomomorphism': each answers some bool and turns nothing.
-/
import Derived.Test.YouahwStrs
namespace Go.Proofs.Youahw
open Go.RowKit

theorem elem27 : Uahg.prog.underlying 27 = some (.slice (Uahg.prog.elem 27)) := by kernel_rfl
theorem sizeOf27 (W : World) : (sizeOf (Uahg.prog.elem 27)).run Uahg.prog W = .ok 1 W := by kernel_rfl
theorem idx27 (ao : Option Addr) (b off n cap k : Nat) (hao : ao = some ⟨b, off, none⟩) (hk : k < n) (W : World) :
    (Instr.indexAt 27 (.slice ao n cap) (.int .i64 k)).run Uahg.prog W = .ok (.pointer (some ⟨b, off + k, none⟩)) W := by
  subst hao
  rw [run_indexAt_slice (h := elem27), if_pos ⟨by omega, by omega⟩, sizeOf27]
  simp only [Result.andThen, Int.toNat_natCast, Nat.mul_one, Addr.add_lit]

/-- One element of a slice of strings that is read. -/
theorem Strs.at {w : World} {ao : Option Addr} {n : Nat} {g : Nat → ByteArray} (h : Strs w ao n g) (cap k : Nat) (hk : k < n) :
    ∃ ad, (∀ W : World, (Instr.indexAt 27 (.slice ao n cap) (.int .i64 k)).run Uahg.prog W = .ok (.pointer (some ad)) W) ∧ w.cell? ad = some (.string (g k)) := by
  rcases h with h | ⟨b, off, hao, hc⟩
  · omega
  · exact ⟨⟨b, off + k, none⟩, idx27 ao b off n cap k hao hk, hc k hk⟩

set_option maxHeartbeats 400000 in
theorem bytes16 (ao : Option Addr) (n cap : Nat) (sep : ByteArray) (g : Nat → ByteArray) (w : World) (hm : n ≤ maxLen) (hsm : sep.size ≤ maxLen) (h : Strs w ao n g) :
    Calls Uahg.prog 16 #[.string sep, .slice ao n cap] w fun e w' => Tests True w e w' := by
  unfold maxLen at hm hsm
  have H : Hid (Strs w ao n g) := h
  clear h
  by_cases h1 : 1048576 < sep.size
  · go_enter Uahg.func16, Uahg.ntmps16
    go_wp2
    go_ret
    exact Tests.no
  by_cases h2 : 1048576 < n
  · go_enter Uahg.func16, Uahg.ntmps16
    go_wp2
    go_ret
    exact Tests.no
  by_cases h3 : 1048576 < sep.size + n
  · go_enter Uahg.func16, Uahg.ntmps16
    go_wp2
    go_ret
    exact Tests.no
  go_enter Uahg.func16, Uahg.ntmps16
  go_wp2
  go_loop [5, 6] (fun t i => ∃ k : Nat, k ≤ n ∧ i = .int .i64 k ∧ ∃ T : Nat, T ≤ 1048576 ∧ t = .int .i64 (T : Int)) (fun _ i => n - (intOf i).toNat)
  case atStart => exact ⟨0, by omega, rfl, sep.size + n, by omega, by go_num⟩
  case round =>
    obtain ⟨k, hk, rfl, T, hT, rfl⟩ := hrel
    by_cases hlt : k < n
    · obtain ⟨ad, hix, hc⟩ := H.out.at cap k hlt
      by_cases hbg : 1048576 < (g k).size
      · go_wp2
        go_ret
        exact Tests.no
      · by_cases hsum : 1048576 < T + (g k).size
        · go_wp2
          go_ret
          exact Tests.no
        · go_wp2
          go_round
          case rel => exact ⟨k + 1, by omega, by go_num, T + (g k).size, by omega, by go_num⟩
          case measure => simp [intOf]; omega
    · go_wp2
      go_ret
      exact Tests.yes trivial

set_option maxHeartbeats 800000 in
theorem bytes19 (ao bo : Option Addr) (n cap m cap2 : Nat) (sep : ByteArray) (f g : Nat → ByteArray) (w : World) (hm : n ≤ maxLen) (hm2 : m ≤ maxLen) (hsm : sep.size ≤ maxLen) (h : Strs w ao n f) (h' : Strs w bo m g) :
    Calls Uahg.prog 19 #[.string sep, .slice ao n cap, .slice bo m cap2] w fun e w' => Tests True w e w' := by
  unfold maxLen at hm hsm hm2
  have H : Hid (Strs w ao n f) := h
  have H' : Hid (Strs w bo m g) := h'
  clear h h'
  by_cases h1 : 1048576 < sep.size
  · go_enter Uahg.func19, Uahg.ntmps19
    go_wp2
    go_ret
    exact Tests.no
  by_cases h2 : 1048576 < n
  · go_enter Uahg.func19, Uahg.ntmps19
    go_wp2
    go_ret
    exact Tests.no
  by_cases h3 : 1048576 < sep.size + n
  · go_enter Uahg.func19, Uahg.ntmps19
    go_wp2
    go_ret
    exact Tests.no
  go_enter Uahg.func19, Uahg.ntmps19
  go_wp2
  go_loop [7, 8] (fun t i => ∃ k : Nat, k ≤ n ∧ i = .int .i64 k ∧ ∃ T : Nat, T ≤ 1048576 ∧ t = .int .i64 (T : Int)) (fun _ i => n - (intOf i).toNat)
  case atStart => exact ⟨0, by omega, rfl, sep.size + n, by omega, by go_num⟩
  case round =>
    obtain ⟨k, hk, rfl, T, hT, rfl⟩ := hrel
    by_cases hlt : k < n
    · obtain ⟨ad, hix, hc⟩ := H.out.at cap k hlt
      by_cases hbg : 1048576 < (f k).size
      · go_wp2
        go_ret
        exact Tests.no
      · by_cases hsum : 1048576 < T + (f k).size
        · go_wp2
          go_ret
          exact Tests.no
        · go_wp2
          go_round
          case rel => exact ⟨k + 1, by omega, by go_num, T + (f k).size, by omega, by go_num⟩
          case measure => simp [intOf]; omega
    · by_cases h4 : 1048576 < m
      · go_wp2
        go_ret
        exact Tests.no
      by_cases h5 : 1048576 < T + m
      · go_wp2
        go_ret
        exact Tests.no
      go_wp2
      go_loop [7, 9] (fun t i => ∃ k : Nat, k ≤ m ∧ i = .int .i64 k ∧ ∃ T : Nat, T ≤ 1048576 ∧ t = .int .i64 (T : Int)) (fun _ i => m - (intOf i).toNat)
      case atStart => exact ⟨0, by omega, rfl, T + m, by omega, by go_num⟩
      case round =>
        obtain ⟨j, hj, rfl, S, hS, rfl⟩ := hrel
        by_cases hlt : j < m
        · obtain ⟨ad, hix, hc⟩ := H'.out.at cap2 j hlt
          by_cases hbg : 1048576 < (g j).size
          · go_wp2
            go_ret
            exact Tests.no
          · by_cases hsum : 1048576 < S + (g j).size
            · go_wp2
              go_ret
              exact Tests.no
            · go_wp2
              go_round
              case rel => exact ⟨j + 1, by omega, by go_num, S + (g j).size, by omega, by go_num⟩
              case measure => simp [intOf]; omega
        · go_wp2
          go_ret
          exact Tests.yes trivial
end Go.Proofs.Youahw
