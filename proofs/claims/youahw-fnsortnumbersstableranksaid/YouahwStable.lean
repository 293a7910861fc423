/-
  THE WALKS OF package sort's stable and Stable.
-/
import Derived.Test.YouahwSym2
namespace Go.Proofs.Youahw
open Go.RowKit

/-- The first k blocks of twenty are sorted. -/
def Twenty {α : Type} (lt : α → α → Bool) (k : Nat) (d : Nat → α) : Prop := ∀ c x y, c < k → c * 20 ≤ x → x < y → y < c * 20 + 20 → lt (d y) (d x) = false

theorem twenty_next {α : Type} {lt : α → α → Bool} {k n : Nat} {d d' : Nat → α} (h : Twenty lt k d) (hm : Mix (20 * k) (20 * k + 20) n d d') (hs : Sorted lt (20 * k) (20 * k + 20) d') : Twenty lt (k + 1) d' := by
  intro c x y h1 h2 h3 h4
  by_cases e : c = k
  · subst e; exact hs x y (by omega) h3 (by omega)
  · rw [hm.out x (.inl (by omega)), hm.out y (.inl (by omega))]; exact h c x y (by omega) h2 h3 h4

theorem twenty_done {α : Type} {lt : α → α → Bool} {k n : Nat} {d d' : Nat → α} (h : Twenty lt k d) (hm : Mix (20 * k) n n d d') (hs : Sorted lt (20 * k) n d') : SB lt 20 n d' := by
  intro c x y h1 h2 h3 h4
  by_cases e : c < k
  · rw [hm.out x (.inl (by omega)), hm.out y (.inl (by omega))]; exact h c x y e h1 h2 h3
  · exact hs x y (by omega) h2 h4

set_option maxHeartbeats 1000000 in
theorem stable32 {α : Type} {enc : α → Value} {lt : α → α → Bool} {T : TypeId} {rv : Value} {gl gs b n : Nat} (M : Meth enc lt T rv gl gs b n) (d : Nat → α) (w : World) (hn : n ≤ 65536) (hS : Row w b n fun t => enc (d t)) :
    Calls Uahg.prog 32 #[.iface T rv, .int .i64 n] w fun e w' => Sorts enc b n w (fun d' => Mix 0 n n d d' ∧ Sorted lt 0 n d') e w' := by
  go_enter Uahg.func32, Uahg.ntmps32
  go_wp2_with fail
  go_loopw [5, 6] (fun va vb wr => ∃ (k : Nat) (f : Nat → α), va = .int .i64 ((20 * k : Nat) : Int) ∧ vb = .int .i64 ((20 * k + 20 : Nat) : Int) ∧ 20 * k ≤ n ∧ St enc b n w f wr ∧ Mix 0 n n d f ∧ Twenty lt k f) (fun va _ _ => n - (intOf va).toNat)
  case atStart => exact ⟨0, d, rfl, rfl, by omega, ⟨hS, Only.refl _ _⟩, Mix.refl _ _ _ _, fun c x y h => by omega⟩
  case round =>
    obtain ⟨k, f, rfl, rfl, hk, hSt, hMx, hTw⟩ := hrel
    have HM : Hid (Mix 0 n n d f ∧ Twenty lt k f) := ⟨hMx, hTw⟩
    clear hMx hTw hS
    by_cases hlt : 20 * k + 20 ≤ n
    · go_wp2_with fail
      refine (insertion36 M f (20 * k) (20 * k + 20) _ _ wr (by omega) (by omega) (by omega) hlt (by omega) hSt.row).mono ?_
      rintro e' w2 ⟨rfl, f2, hSt2, hMx2, hSo2⟩
      have HZ : Hid (St enc b n w f2 w2 ∧ Mix 0 n n d f2 ∧ Twenty lt (k + 1) f2) := ⟨hSt.step hSt2, HM.out.1.trans (hMx2.mono (by omega) hlt), twenty_next HM.out.2 hMx2 hSo2⟩
      clear hSt hSt2 hMx2 hSo2 HM
      go_wp2
      go_roundw
      case rel => exact ⟨k + 1, f2, by go_num, by go_num, by omega, HZ.out.1, HZ.out.2.1, HZ.out.2.2⟩
      case measure => simp [intOf]; omega
    · go_wp2_with fail
      refine (insertion36 M f (20 * k) n _ _ wr (by omega) rfl (by omega) (by omega) (by omega) hSt.row).mono ?_
      rintro e' w2 ⟨rfl, f2, hSt2, hMx2, hSo2⟩
      have HZ : Hid (St enc b n w f2 w2 ∧ Mix 0 n n d f2 ∧ SB lt 20 n f2) := ⟨hSt.step hSt2, HM.out.1.trans (hMx2.mono (by omega) (Nat.le_refl _)), twenty_done HM.out.2 hMx2 hSo2⟩
      clear hSt hSt2 hMx2 hSo2 HM
      go_wp2_with fail
      go_loopw [4] (fun vs wr => ∃ (s : Nat) (f : Nat → α), vs = .int .i64 (s : Int) ∧ 0 < s ∧ s ≤ 131072 ∧ St enc b n w f wr ∧ Mix 0 n n d f ∧ SB lt s n f) (fun vs _ => n - (intOf vs).toNat)
      case atStart => exact ⟨20, f2, rfl, by omega, by omega, HZ.out⟩
      case round =>
        obtain ⟨s, g, rfl, hs0, hs1, hSt, hMx, hSB⟩ := hrel
        have HM : Hid (Mix 0 n n d g ∧ SB lt s n g) := ⟨hMx, hSB⟩
        clear hMx hSB HZ
        by_cases hsn : s < n
        · have HS : Hid (St enc b n w g wr ∧ Mix 0 n n d g ∧ Pass lt s n 0 g) := ⟨hSt, HM.out.1, Pass.start HM.out.2⟩
          clear hSt HM
          go_wp2_with fail
          go_loopw [5, 6] (fun va vb wr => ∃ (k A : Nat) (f : Nat → α), A = k * (2 * s) ∧ va = .int .i64 (A : Int) ∧ vb = .int .i64 ((A + 2 * s : Nat) : Int) ∧ A ≤ n ∧ St enc b n w f wr ∧ Mix 0 n n d f ∧ Pass lt s n k f) (fun va _ _ => n - (intOf va).toNat)
          case atStart => exact ⟨0, 0, g, by omega, rfl, by go_num, by omega, HS.out⟩
          case round =>
            obtain ⟨q, A, p, hAq, rfl, rfl, hAn, hSt, hMx, hPs⟩ := hrel
            have HP : Hid (A = q * (2 * s) ∧ Mix 0 n n d p ∧ Pass lt s n q p) := ⟨hAq, hMx, hPs⟩
            clear hAq hMx hPs HS
            by_cases hlt2 : A + 2 * s ≤ n
            · have HQ : Hid (Sorted lt A (A + s) p ∧ Sorted lt (A + s) (A + 2 * s) p) := by
                have := HP.out.1
                subst this
                exact ⟨HP.out.2.2.first _ (by omega) (by omega), HP.out.2.2.second _ (by omega) (by omega)⟩
              go_wp2_with fail
              refine (sym37 M p A (A + s) (A + 2 * s) _ _ _ wr rfl (by omega) (by omega) (by omega) (by omega) hlt2 (by omega) hSt.row HQ.out.1 HQ.out.2).mono ?_
              rintro e' w3 ⟨rfl, p2, hSt3, hMx3, hSo3⟩
              have HZ : Hid (A + 2 * s = (q + 1) * (2 * s) ∧ St enc b n w p2 w3 ∧ Mix 0 n n d p2 ∧ Pass lt s n (q + 1) p2) := by
                refine ⟨(congrArg (· + 2 * s) HP.out.1).trans (Nat.succ_mul q (2 * s)).symm, hSt.step hSt3, HP.out.2.1.trans (hMx3.mono (by omega) hlt2), ?_⟩
                have := HP.out.1
                subst this
                exact HP.out.2.2.next hMx3 hSo3
              clear hSt hSt3 hMx3 hSo3 HP HQ
              go_wp2
              go_roundw
              case rel => exact ⟨q + 1, A + 2 * s, p2, HZ.out.1, by go_num, by go_num, by omega, HZ.out.2⟩
              case measure => simp [intOf]; omega
            · by_cases hms : A + s < n
              · have HQ : Hid (Sorted lt A (A + s) p ∧ Sorted lt (A + s) n p) := by
                  have := HP.out.1
                  subst this
                  exact ⟨HP.out.2.2.first _ (by omega) (by omega), HP.out.2.2.second _ (by omega) (by omega)⟩
                go_wp2_with fail
                refine (sym37 M p A (A + s) n _ _ _ wr rfl (by omega) rfl (by omega) hms (by omega) (by omega) hSt.row HQ.out.1 HQ.out.2).mono ?_
                rintro e' w3 ⟨rfl, p2, hSt3, hMx3, hSo3⟩
                have HZ : Hid (St enc b n w p2 w3 ∧ Mix 0 n n d p2 ∧ SB lt (2 * s) n p2) := by
                  refine ⟨hSt.step hSt3, HP.out.2.1.trans (hMx3.mono (by omega) (Nat.le_refl _)), ?_⟩
                  have := HP.out.1
                  subst this
                  exact HP.out.2.2.done hMx3 hSo3
                clear hSt hSt3 hMx3 hSo3 HP HQ
                go_wp2
                go_roundw
                case rel => exact ⟨2 * s, p2, by go_num, by omega, by omega, HZ.out⟩
                case measure => simp [intOf]; omega
              · have HZ : Hid (St enc b n w p wr ∧ Mix 0 n n d p ∧ SB lt (2 * s) n p) := by
                  refine ⟨hSt, HP.out.2.1, ?_⟩
                  have := HP.out.1
                  subst this
                  exact HP.out.2.2.done (Mix.refl _ _ _ _) (HP.out.2.2.first _ (Nat.le_refl _) (by omega))
                clear hSt HP
                go_wp2
                go_roundw
                case rel => exact ⟨2 * s, p, by go_num, by omega, by omega, HZ.out⟩
                case measure => simp [intOf]; omega
        · have HZ : Hid (Sorts enc b n w (fun d' => Mix 0 n n d d' ∧ Sorted lt 0 n d') (.returned (.tuple #[])) wr) := ⟨rfl, g, hSt, HM.out.1, HM.out.2.all (by omega)⟩
          clear hSt HM
          go_wp2
          go_end0
          exact HZ.out

set_option maxHeartbeats 400000 in
theorem stable29 {α : Type} {enc : α → Value} {lt : α → α → Bool} {T : TypeId} {rv : Value} {gl gs b n gn : Nat} (M : Meth enc lt T rv gl gs b n) (d : Nat → α) (w : World) (hn : n ≤ 65536) (hS : Row w b n fun t => enc (d t))
    (mN : ∀ w, (method 190 T rv "Len").run Uahg.prog w = .ok (gn, rv) w) (eN : ∀ args w, (callFunc gn args).run Uahg.prog w = .ok (.enter gn args) w)
    (hN : ∀ w, Calls Uahg.prog gn #[rv] w fun e w' => e = .returned (.int .i64 n) ∧ w = w') :
    Calls Uahg.prog 29 #[.iface T rv] w fun e w' => Sorts enc b n w (fun d' => Mix 0 n n d d' ∧ Sorted lt 0 n d') e w' := by
  have HN : Hid (∀ w, Calls Uahg.prog gn #[rv] w fun e w' => e = .returned (.int .i64 n) ∧ w = w') := hN
  clear hN
  go_enter Uahg.func29, Uahg.ntmps29
  go_wp2_with fail
  refine (HN.out w).mono ?_
  rintro e' w2 ⟨rfl, rfl⟩
  go_wp2_with fail
  refine (stable32 M d w hn hS).mono ?_
  intro e' w2 h
  have hr := h.1
  subst hr
  have HZ : Hid (Sorts enc b n w (fun d' => Mix 0 n n d d' ∧ Sorted lt 0 n d') (.returned (.tuple #[])) w2) := h
  clear h
  go_wp2
  go_end0
  exact HZ.out
end Go.Proofs.Youahw
