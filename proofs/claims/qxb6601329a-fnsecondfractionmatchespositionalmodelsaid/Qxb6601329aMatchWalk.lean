/-
  'FnSecondFractionMatchesPositionalModel': the walk.
-/
import Derived.Test.Qxb6601329aModelWalk
import Derived.RowKit3
namespace Go.Proofs.Qxb6601329a
open Go.RowKit
theorem Grown.drewN {a b : World} (h : Grown a b) (n : Nat) : Grown a (b.drewN n) := h
set_option maxHeartbeats 400000 in
theorem zz14 (a : ByteArray) (w : World) (ha : a.size ≤ maxLen) :
    Calls Try.prog 14 #[.string a] w fun e w' => ∃ x, e = .returned (.bool x) ∧ w' = w := by
  unfold maxLen at ha
  go_enter Try.func14, Try.ntmps14
  go_wp2
  all_goals (go_ret; exact ⟨_, rfl, rfl⟩)

/-- The two answers are one. -/
theorem both (s : ByteArray) (hs : s.size ≤ 1048576) : ∃ a b, (∀ w, Calls Try.prog 15 #[.string s] w fun e w' => e = .returned (.tuple #[.int .i64 a, .string b]) ∧ ∃ n, w' = w.drewN n) ∧ (∀ w, Calls Try.prog 16 #[.string s] w fun e w' => e = .returned (.tuple #[.int .i64 a, .string b]) ∧ ∃ n, w' = w.drewN n) := by
  have hs' : s.size ≤ 2097152 := by omega
  cases hd : dot s with
  | false => exact ⟨0, s, zzFrac s _ _ (fun w => frac_none s w hs' hd), fun w => model_none s w hs hd⟩
  | true =>
    have h0 : 0 < s.size := by
      rcases Nat.eq_zero_or_pos s.size with h | h
      · rw [dot_empty (by omega)] at hd; cases hd
      · exact h
    obtain ⟨k, F⟩ := frac_exists s h0
    by_cases hk : k = 0
    · subst hk
      exact ⟨0, s, zzFrac s _ _ (fun w => frac_zero s F w hs' hd), fun w => model_zero s F w hs hd⟩
    · exact ⟨_, _, zzFrac s _ _ (fun w => frac_some s k F (by omega) w hs' hd), fun w => by rw [F.sum]; exact model_some s k F (by omega) w hs hd⟩

set_option maxHeartbeats 400000 in
theorem match_walk (a0 : ByteArray) (w0 : a0.size ≤ maxLen) (w : World) :
    Calls Try.prog 5 #[.string a0] w fun e w' => e = .returned (.bool true) ∧ Grown w w' := by
  go_enter Try.func5, Try.ntmps5
  go_wp2_with (go_at_call 14; refine (zz14 _ _ w0).mono ?_; rintro e w' ⟨b, rfl, rfl⟩)
  · go_ret; exact ⟨rfl, RowKit.Grown.refl _⟩
  · go_ret; exact ⟨rfl, RowKit.Grown.refl _⟩
  obtain ⟨x, y, c1, c2⟩ := both a0 (by omega)
  have h1 := c1 w'
  refine h1.mono ?_
  clear h1 c1
  have H2 : Hid (∀ w, Calls Try.prog 16 #[.string a0] w fun e w' => e = .returned (.tuple #[.int .i64 x, .string y]) ∧ ∃ n, w' = w.drewN n) := c2
  clear c2
  rintro e w1 ⟨rfl, n1, rfl⟩
  go_wp2_with fail
  refine (H2.out _).mono ?_
  rintro e w1 ⟨rfl, n2, rfl⟩
  go_wp2
  go_ret
  exact ⟨rfl, Grown.drewN (RowKit.Grown.refl _) _⟩
end Go.Proofs.Qxb6601329a
