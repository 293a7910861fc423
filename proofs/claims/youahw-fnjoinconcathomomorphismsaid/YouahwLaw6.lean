/-
  THE LAW FnJoinConcatHomomorphism, walked.
-/
import Derived.Test.YouahwJoin
import Derived.Test.YouahwStrs2
namespace Go.Proofs.Youahw
open Go.RowKit

theorem Strs.below {w W : World} {ao : Option Addr} {n : Nat} {g : Nat → ByteArray} (h : Strs w ao n g) (hb : Below w.heap.size w W) : Strs W ao n g := by
  rcases h with h | ⟨b, off, hao, hc⟩
  · exact .inl h
  · exact .inr ⟨b, off, hao, fun t ht => by rw [hb.cell (p := ⟨b, off + t, none⟩) (World.block_lt_of_cell? _ _ (hc t ht))]; exact hc t ht⟩

theorem Row.grown {w w' : World} {b n : Nat} {g : Nat → Value} {row : Option Nat} (h : Row w b n g) (hg : w.grownBy w' row) (hne : row ≠ some b) : Row w' b n g := by
  have hb := hg.block b h.lt (fun e => hne e.symm)
  exact ⟨by have := h.lt; have := hg.size; omega, fun t ht => by rw [World.cell?_of_block (w := w) hb]; exact h.cell t ht, fun t => by rw [World.frozen?_of_block (w := w) hb]; exact h.free t⟩

theorem make27_cap (c : Nat) (hc : c ≤ 4194304) : ∃ C : Array Value, C.size = c ∧
    ∀ W : World, (Instr.makeSlice 27 (.int .i64 0) (.int .i64 (c : Int))).run Uahg.prog W = .ok (.slice (some ⟨W.heap.size, 0, none⟩) 0 c) (W.alloc (.cells C 9)) := by
  obtain ⟨i, hi, h0, h1, h2⟩ := info_parts info9
  refine ⟨madeCells (Value.string ByteArray.empty).cells (c * i.size), ?_, fun W => ?_⟩
  · rw [size_madeCells, h1]; omega
  · have hr := run_make (P := Uahg.prog) W 27 9 i _ Uahg.underlying27 hi h0 .i64 .i64 0 (c : Int) (by omega) (by omega) (by rw [h2]; omega) (by omega)
    simpa using hr

theorem nil_neq (ao : Option Addr) (n cap : Nat) (g : Nat → ByteArray) (w : World) (h : Strs w ao n g) (hn : 0 < n) (W : World) :
    (binOp .neq 27 (.slice ao n cap) (.slice none 0 0)).run Uahg.prog W = .ok (.bool true) W := by
  rcases h with h | ⟨b, off, rfl, hc⟩
  · omega
  · exact run_neq_slice_nil_any (P := Uahg.prog) W 27 9 _ n cap 0 0 Uahg.underlying27

/-- f's n strings and g's behind them. -/
def both (f g : Nat → ByteArray) (n t : Nat) : ByteArray := if t < n then f t else g (t - n)

theorem both_upTo (f g : Nat → ByteArray) (n : Nat) : upTo (both f g n) n = upTo f n := by
  unfold upTo
  apply List.map_congr_left
  intro t ht
  simp at ht
  simp [both, ht]

theorem both_sz (f g : Nat → ByteArray) (n : Nat) : ∀ m, sz (both f g n) (n + m) = sz f n + sz g m
  | 0 => by
    have h : ∀ k, k ≤ n → sz (both f g n) k = sz f k := by
      intro k
      induction k with
      | zero => intro _; rfl
      | succ k ih => intro hk; simp only [sz]; rw [ih (by omega)]; simp [both, show k < n by omega]
    simp [h n (Nat.le_refl _), sz]
  | m + 1 => by
    rw [← Nat.add_assoc]
    simp only [sz]
    rw [both_sz f g n m]
    simp [both, show ¬ n + m < n by omega]; omega

theorem row_of_owned {w : World} {B b k cap : Nat} {g : Nat → ByteArray} (h : w.ownsRow B 9 1 (.slice (some ⟨b, 0, none⟩) k cap) k ((upTo g k).map Value.string)) : Row w b k fun t => .string (g t) := by
  refine ⟨(h.lt b rfl).2, fun t ht => ?_, fun t => h.frozenAt t⟩
  rw [h.cellAt t (by omega)]
  simp [upTo, ht]

theorem joinS_small (sep : ByteArray) (f : Nat → ByteArray) (n : Nat) (hn : n ≤ 65536) (hs : sep.size ≤ 1048576) (hz : sz f n ≤ 1048576) : (joinS sep f n).size ≤ 1099511627776 := by
  have h6 := jl_len (bs sep) f n
  rw [bs_len] at h6
  have h7 : n * sep.size ≤ 65536 * 1048576 := Nat.mul_le_mul hn hs
  rw [joinS_size]; omega

/-- What ends a run that returns true early. -/
def Ends (w : World) (e : Ending) (w' : World) : Prop := e = .returned (.bool true) ∧ Below w.heap.size w w'

set_option maxHeartbeats 1000000 in
theorem law6 (ao bo : Option Addr) (n cap m cap2 : Nat) (sep : ByteArray) (f g : Nat → ByteArray) (w : World) (hm : n ≤ maxLen) (hm2 : m ≤ maxLen) (hsm : sep.size ≤ maxLen) (h : Strs w ao n f) (h' : Strs w bo m g) :
    Calls Uahg.prog 6 #[.string sep, .slice ao n cap, .slice bo m cap2] w fun e w' => Ends w e w' := by
  have H19 : Hid (Calls Uahg.prog 19 #[.string sep, .slice ao n cap, .slice bo m cap2] w fun e w' => Tests True w e w') := bytes19 ao bo n cap m cap2 sep f g w hm hm2 hsm h h'
  unfold maxLen at hm hm2 hsm
  have Ha : Hid (Strs w ao n f) := h
  have Hb : Hid (Strs w bo m g) := h'
  clear h h'
  by_cases h1 : 1048576 < sep.size
  · go_enter Uahg.func6, Uahg.ntmps6
    go_wp2_with fail
    refine H19.out.mono ?_
    rintro e w' (⟨rfl, -, rfl⟩ | ⟨rfl, rfl⟩)
    all_goals
      go_wp2
      go_ret
      exact ⟨rfl, Below.refl _ _⟩
  by_cases h2 : 65536 < n
  · go_enter Uahg.func6, Uahg.ntmps6
    go_wp2_with fail
    refine H19.out.mono ?_
    rintro e w' (⟨rfl, -, rfl⟩ | ⟨rfl, rfl⟩)
    all_goals
      go_wp2
      go_ret
      exact ⟨rfl, Below.refl _ _⟩
  by_cases h3 : 65536 < m
  · go_enter Uahg.func6, Uahg.ntmps6
    go_wp2_with fail
    refine H19.out.mono ?_
    rintro e w' (⟨rfl, -, rfl⟩ | ⟨rfl, rfl⟩)
    all_goals
      go_wp2
      go_ret
      exact ⟨rfl, Below.refl _ _⟩
  have Hza : Hid (Calls Uahg.prog 14 #[.slice ao n cap] w fun e w' => ∃ t : Int, e = .returned (.int .i64 t) ∧ 0 ≤ t ∧ t ≤ 4194304 ∧ (t ≤ 1048576 → t = 16 * n + sz f n) ∧ w = w') := strBytes14 ao n cap f w (by omega) Ha.out
  have Hzb : Hid (Calls Uahg.prog 14 #[.slice bo m cap2] w fun e w' => ∃ t : Int, e = .returned (.int .i64 t) ∧ 0 ≤ t ∧ t ≤ 4194304 ∧ (t ≤ 1048576 → t = 16 * m + sz g m) ∧ w = w') := strBytes14 bo m cap2 g w (by omega) Hb.out
  go_enter Uahg.func6, Uahg.ntmps6
  go_wp2_with fail
  refine H19.out.mono ?_
  rintro e w' (⟨rfl, -, rfl⟩ | ⟨rfl, rfl⟩)
  · clear H19
    go_wp2_with fail
    · go_ret
      exact ⟨rfl, Below.refl _ _⟩
    all_goals
      refine Hza.out.mono ?_
      rintro e w' ⟨t, rfl, ht0, ht1, ht, rfl⟩
      have HTa : Hid (t ≤ 1048576 → t = 16 * n + sz f n) := ht
      clear ht Hza
      go_wp2_with fail
      refine Hzb.out.mono ?_
      rintro e w' ⟨u, rfl, hu0, hu1, hu, rfl⟩
      have HTb : Hid (u ≤ 1048576 → u = 16 * m + sz g m) := hu
      clear hu Hzb
      by_cases htb : 1048576 < (sep.size : Int) + t + u
      · go_wp2
        go_ret
        exact ⟨rfl, Below.refl _ _⟩
      by_cases hn0 : n = 0
      · have e0 : ((n : Int) == 0) = true := by simp; omega
        clear hn0
        go_wp2
        go_ret
        exact ⟨rfl, Below.refl _ _⟩
      have e0 : ((n : Int) == 0) = false := by simp; omega
      by_cases hm0 : m = 0
      · have e1 : ((m : Int) == 0) = true := by simp; omega
        clear hm0
        go_wp2
        go_ret
        exact ⟨rfl, Below.refl _ _⟩
      have e1 : ((m : Int) == 0) = false := by simp; omega
      have hna := nil_neq ao n cap f w Ha.out (by omega)
      have hnb := nil_neq bo m cap2 g w Hb.out (by omega)
      obtain ⟨C, hCs, _, hmk⟩ := make27 n (by omega)
      obtain ⟨W2, hcp, hR, hB⟩ := copy_row 27 9 Uahg.underlying27 size9 w C n hCs ao cap (fun t => .string (f t)) (fun _ _ => rfl) Ha.out
      obtain ⟨D, hDs, _, hmk2⟩ := make27 m (by omega)
      obtain ⟨W3, hcp2, hR2, hB2⟩ := copy_row 27 9 Uahg.underlying27 size9 W2 D m hDs bo cap2 (fun t => .string (g t)) (fun _ _ => rfl) (Hb.out.below hB)
      obtain ⟨E, hEs, hmk3⟩ := make27_cap (n + m) (by omega)
      rw [Int.natCast_add] at hmk3
      have s1 : w.heap.size < W2.heap.size := hR.lt
      have s2 : W2.heap.size < W3.heap.size := hR2.lt
      have HS : Hid ((W3.alloc (.cells E 9)).ownsRow w.heap.size 9 1 (.slice (some ⟨W3.heap.size, 0, none⟩) 0 (n + m)) 0 ((upTo f 0).map Value.string) ∧ Row (W3.alloc (.cells E 9)) w.heap.size n (fun t => .string (f t)) ∧ Row (W3.alloc (.cells E 9)) W2.heap.size m (fun t => .string (g t)) ∧ Below w.heap.size w (W3.alloc (.cells E 9))) :=
        ⟨World.ownsRow_made W3 E (n + m) (by omega) (by unfold maxLen; omega) (by omega), (hR.below hB2 s1).alloc _, hR2.alloc _, (Below.step hB hB.size hB2).alloc (by omega) _⟩
      clear hR hR2 hB hB2 hCs hDs hEs Ha Hb
      have hsz : sz (both f g n) (n + m) ≤ 1048576 ∧ sz f n ≤ 1048576 ∧ sz g m ≤ 1048576 := by
        have h8 := HTa.out (by omega)
        have h9 := HTb.out (by omega)
        rw [both_sz]; omega
      have HZ : Hid (sz (both f g n) (n + m) ≤ 1048576 ∧ sz f n ≤ 1048576 ∧ sz g m ≤ 1048576) := hsz
      clear hsz HTa HTb
      go_wp2_with fail
      clear hna hnb hmk hmk2 hmk3 hcp hcp2
      obtain ⟨i0, hi, hz0, hz1, hz2⟩ := info_parts info9
      go_loopw [9, 10] (fun v i wr => ∃ k : Nat, k ≤ n ∧ i = .int .i64 k ∧ v = .slice (some ⟨W3.heap.size, 0, none⟩) k (n + m) ∧ wr.ownsRow w.heap.size 9 1 (.slice (some ⟨W3.heap.size, 0, none⟩) k (n + m)) k ((upTo f k).map Value.string) ∧ Row wr w.heap.size n (fun t => .string (f t)) ∧ Row wr W2.heap.size m (fun t => .string (g t)) ∧ Below w.heap.size w wr) (fun _ i _ => n - (intOf i).toNat)
      case atStart => exact ⟨0, by omega, rfl, rfl, HS.out.1, HS.out.2.1, HS.out.2.2.1, HS.out.2.2.2⟩
      case round =>
        obtain ⟨k, hk, rfl, rfl, hown, hRa, hRb, hB⟩ := hrel
        clear HS
        by_cases hlt : k < n
        · have c1 := hRa.cell k hlt
          have hsz := hB.size
          go_wp2_with (at_builtin; refine wpList_append_fits _ rfl (.tmp 89) (.tmp 94) 27 rfl w.heap.size 9 i0 1 Uahg.underlying27 hi hz1 W3.heap.size k (n + m) _ rfl (hown.alloc _) ⟨wr.heap.size, 0, none⟩ 1 1 [.string (f k)] rfl rfl (cell_one_new _ _ _) ?_ ?_ ?_)
          · intro u hu; simp at hu; subst hu; rfl
          · omega
          intro w1 hown' hgrow
          have HO : Hid (w1.ownsRow w.heap.size 9 1 (.slice (some ⟨W3.heap.size, 0, none⟩) (k + 1) (n + m)) (k + 1) ((upTo f (k + 1)).map Value.string)) := by show World.ownsRow _ _ _ _ _ _ _; rw [upTo_succ]; simpa using hown'
          have HRa : Hid (Row w1 w.heap.size n (fun t => .string (f t)) ∧ Row w1 W2.heap.size m (fun t => .string (g t)) ∧ Below w.heap.size w w1) :=
            ⟨(hRa.alloc _).grown hgrow (by simp; omega), (hRb.alloc _).grown hgrow (by simp; omega), (hB.alloc hsz _).grown hgrow (by simp; omega) (fun j hj => by cases hj; omega)⟩
          clear hown' hgrow hown hB hi hz0 hz1 hz2 hRa hRb
          go_wp2
          go_roundw
          case rel => exact ⟨k + 1, by omega, by go_num, rfl, HO.out, HRa.out.1, HRa.out.2.1, HRa.out.2.2⟩
          case measure => simp [intOf]; omega
        · have hkn : k = n := by omega
          subst hkn
          have HS2 : Hid (wr.ownsRow w.heap.size 9 1 (.slice (some ⟨W3.heap.size, 0, none⟩) (k + 0) (k + m)) (k + 0) ((upTo (both f g k) (k + 0)).map Value.string) ∧ Row wr w.heap.size k (fun t => .string (f t)) ∧ Row wr W2.heap.size m (fun t => .string (g t)) ∧ Below w.heap.size w wr) :=
            ⟨by rw [Nat.add_zero, both_upTo]; exact hown, hRa, hRb, hB⟩
          clear hown hRa hRb hB
          go_wp2_with fail
          go_loopw [9, 11] (fun v i wr => ∃ j : Nat, j ≤ m ∧ i = .int .i64 j ∧ v = .slice (some ⟨W3.heap.size, 0, none⟩) (k + j) (k + m) ∧ wr.ownsRow w.heap.size 9 1 (.slice (some ⟨W3.heap.size, 0, none⟩) (k + j) (k + m)) (k + j) ((upTo (both f g k) (k + j)).map Value.string) ∧ Row wr w.heap.size k (fun t => .string (f t)) ∧ Row wr W2.heap.size m (fun t => .string (g t)) ∧ Below w.heap.size w wr) (fun _ i _ => m - (intOf i).toNat)
          case atStart => exact ⟨0, by omega, rfl, rfl, HS2.out.1, HS2.out.2.1, HS2.out.2.2.1, HS2.out.2.2.2⟩
          case round =>
            obtain ⟨j, hj, rfl, rfl, hown, hRa, hRb, hB⟩ := hrel
            clear HS2
            by_cases hlt2 : j < m
            · have c1 := hRb.cell j hlt2
              have hsz := hB.size
              go_wp2_with (at_builtin; refine wpList_append_fits _ rfl (.tmp 102) (.tmp 107) 27 rfl w.heap.size 9 i0 1 Uahg.underlying27 hi hz1 W3.heap.size (k + j) (k + m) _ rfl (hown.alloc _) ⟨wr.heap.size, 0, none⟩ 1 1 [.string (g j)] rfl rfl (cell_one_new _ _ _) ?_ ?_ ?_)
              · intro u hu; simp at hu; subst hu; rfl
              · omega
              intro w1 hown' hgrow
              have HO : Hid (w1.ownsRow w.heap.size 9 1 (.slice (some ⟨W3.heap.size, 0, none⟩) (k + (j + 1)) (k + m)) (k + (j + 1)) ((upTo (both f g k) (k + (j + 1))).map Value.string)) := by
                show World.ownsRow _ _ _ _ _ _ _
                rw [← Nat.add_assoc, upTo_succ]
                simpa [both, show ¬ k + j < k by omega] using hown'
              have HRa : Hid (Row w1 w.heap.size k (fun t => .string (f t)) ∧ Row w1 W2.heap.size m (fun t => .string (g t)) ∧ Below w.heap.size w w1) :=
                ⟨(hRa.alloc _).grown hgrow (by simp; omega), (hRb.alloc _).grown hgrow (by simp; omega), (hB.alloc hsz _).grown hgrow (by simp; omega) (fun j hj => by cases hj; omega)⟩
              clear hown' hgrow hown hB hi hz0 hz1 hz2 hRa hRb
              go_wp2
              go_roundw
              case rel => exact ⟨j + 1, by omega, by go_num, rfl, HO.out, HRa.out.1, HRa.out.2.1, HRa.out.2.2⟩
              case measure => simp [intOf]; omega
            · have hjm : j = m := by omega
              subst hjm
              have hRc := row_of_owned hown
              have HRs : Hid (Row wr W3.heap.size (k + j) (fun t => .string (both f g k t)) ∧ Row wr w.heap.size k (fun t => .string (f t)) ∧ Row wr W2.heap.size j (fun t => .string (g t)) ∧ Below w.heap.size w wr) := ⟨hRc, hRa, hRb, hB⟩
              clear hown hRc hRa hRb hB hi hz0 hz1 hz2
              have J1 := zjoin17 (k + j) W3.heap.size (k + j) sep (both f g k) wr (by omega) (by omega) (by have := HZ.out.1; omega) HRs.out.1
              rw [show joinS sep (both f g k) (k + j) = joinS sep f k ++ sep ++ joinS sep g j from joinS_concat sep f g k j (by omega) (by omega)] at J1
              have hA : (joinS sep f k).size ≤ 1099511627776 := joinS_small sep f k (by omega) (by omega) (by have := HZ.out.2.1; omega)
              have hG : (joinS sep g j).size ≤ 1099511627776 := joinS_small sep g j (by omega) (by omega) (by have := HZ.out.2.2; omega)
              have J2 : Hid (∀ W, Row W w.heap.size k (fun t => .string (f t)) → Calls Uahg.prog 17 #[.string sep, .slice (some ⟨w.heap.size, 0, none⟩) k k] W fun e w' => e = .returned (.string (joinS sep f k)) ∧ Below W.heap.size W w') :=
                fun W hW => zjoin17 k w.heap.size k sep f W (by omega) (by omega) (by have := HZ.out.2.1; omega) hW
              have J3 : Hid (∀ W, Row W W2.heap.size j (fun t => .string (g t)) → Calls Uahg.prog 17 #[.string sep, .slice (some ⟨W2.heap.size, 0, none⟩) j j] W fun e w' => e = .returned (.string (joinS sep g j)) ∧ Below W.heap.size W w') :=
                fun W hW => zjoin17 j W2.heap.size j sep g W (by omega) (by omega) (by have := HZ.out.2.2; omega) hW
              have HJ1 : Hid (Calls Uahg.prog 17 #[.string sep, .slice (some ⟨W3.heap.size, 0, none⟩) (k + j) (k + j)] wr fun e w' => e = .returned (.string (joinS sep f k ++ sep ++ joinS sep g j)) ∧ Below wr.heap.size wr w') := J1
              clear J1
              generalize joinS sep f k = A at *
              generalize joinS sep g j = G at *
              go_wp2_with fail
              refine HJ1.out.mono ?_
              rintro e w5 ⟨rfl, hB5⟩
              have HR5 : Hid (Row w5 w.heap.size k (fun t => .string (f t)) ∧ Row w5 W2.heap.size j (fun t => .string (g t)) ∧ Below w.heap.size w w5) :=
                ⟨HRs.out.2.1.below hB5 HRs.out.2.1.lt, HRs.out.2.2.1.below hB5 HRs.out.2.2.1.lt, Below.step HRs.out.2.2.2 HRs.out.2.2.2.size hB5⟩
              clear hB5 HJ1 HRs
              go_wp2_with fail
              refine (J2.out w5 HR5.out.1).mono ?_
              rintro e w6 ⟨rfl, hB6⟩
              have HR6 : Hid (Row w6 W2.heap.size j (fun t => .string (g t)) ∧ Below w.heap.size w w6) :=
                ⟨HR5.out.2.1.below hB6 HR5.out.2.1.lt, Below.step HR5.out.2.2 HR5.out.2.2.size hB6⟩
              clear hB6 HR5 J2
              go_wp2_with fail
              refine (J3.out w6 HR6.out.1).mono ?_
              rintro e w7 ⟨rfl, hB7⟩
              have HB8 : Hid (Below w.heap.size w w7) := Below.step HR6.out.2 HR6.out.2.size hB7
              clear hB7 HR6 J3
              go_wp2
              go_ret
              exact ⟨rfl, HB8.out⟩
  · go_wp2
    go_ret
    exact ⟨rfl, Below.refl _ _⟩
end Go.Proofs.Youahw
