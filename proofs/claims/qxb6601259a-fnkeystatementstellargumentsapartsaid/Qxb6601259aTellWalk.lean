/-
  'FnKeyStatementsTellArgumentsApart': the walk.
-/
import Derived.Test.Qxb6601259aKeys
namespace Go.Proofs.Qxb6601259a
open Go.RowKit
set_option maxHeartbeats 400000 in
theorem zz15 (a b c d : ByteArray) (w : World) (ha : a.size ≤ maxLen) (hb : b.size ≤ maxLen) (hc : c.size ≤ maxLen) (hd : d.size ≤ maxLen) :
    Calls Try.prog 15 #[.string a, .string b, .string c, .string d] w fun e w' => ∃ x, e = .returned (.bool x) ∧ w' = w := by
  unfold maxLen at ha hb hc hd
  go_enter Try.func15, Try.ntmps15
  go_wp2
  all_goals (go_ret; exact ⟨_, rfl, rfl⟩)

set_option maxHeartbeats 400000 in
theorem tell_walk (a0 : ByteArray) (a1 : ByteArray) (a2 : ByteArray) (a3 : ByteArray) (w0 : a0.size ≤ maxLen) (w1 : a1.size ≤ maxLen) (w2 : a2.size ≤ maxLen) (w3 : a3.size ≤ maxLen) (w : World) :
    Calls Try.prog 6 #[.string a0, .string a1, .string a2, .string a3] w fun e w' => e = .returned (.bool true) ∧ Grown w w' := by
  go_enter Try.func6, Try.ntmps6
  go_wp2_with (go_at_call 15; refine (zz15 _ _ _ _ _ w0 w1 w2 w3).mono ?_; rintro e w' ⟨b, rfl, rfl⟩)
  iterate 5 (· go_ret; exact ⟨rfl, RowKit.Grown.refl _⟩)
  have h0 : a0.size ≤ 65536 := by omega
  have h1 : a1.size ≤ 65536 := by omega
  have h2 : a2.size ≤ 65536 := by omega
  have h3 : a3.size ≤ 65536 := by omega
  have hl0 := lockOf_size a0
  have hl2 := lockOf_size a2
  have hr0 := readOf_size a0 a1
  have hr2 := readOf_size a2 a3
  have b0 : (lockOf a0).size ≤ maxLen := by unfold maxLen; omega
  have b2 : (lockOf a2).size ≤ maxLen := by unfold maxLen; omega
  have c0 : (readOf a0 a1).size ≤ maxLen := by unfold maxLen; omega
  have c2 : (readOf a2 a3).size ≤ maxLen := by unfold maxLen; omega
  clear hl0 hl2 hr0 hr2
  refine (key13 a0 a1 _ h0 h1).mono ?_
  rintro e u1 ⟨rfl, g1⟩
  go_wp2_with fail
  refine (key13 a2 a3 _ h2 h3).mono ?_
  rintro e u2 ⟨rfl, g2⟩
  go_wp2_with fail
  cases hA : same a0 a2 with
  | false =>
    refine (sameText_val _ _ false (by rw [same_lock, hA]) _ b0 b2).mono ?_
    rintro e u3 ⟨rfl, n3, rfl⟩
    go_wp2_with fail
    refine (sameText_val _ _ false hA _ w0 w2).mono ?_
    rintro e u3 ⟨rfl, n4, rfl⟩
    go_wp2
    go_ret
    exact ⟨rfl, Grown.drewN (Grown.trans g1 g2) _⟩
  | true =>
    refine (sameText_val _ _ true (by rw [same_lock, hA]) _ b0 b2).mono ?_
    rintro e u3 ⟨rfl, n3, rfl⟩
    go_wp2_with fail
    refine (sameText_val _ _ (same a1 a3) (same_read hA a1 a3) _ c0 c2).mono ?_
    rintro e u3 ⟨rfl, n4, rfl⟩
    go_wp2_with fail
    refine (sameText_val _ _ true hA _ w0 w2).mono ?_
    rintro e u3 ⟨rfl, n5, rfl⟩
    go_wp2_with fail
    refine (sameText_val _ _ (same a1 a3) rfl _ w1 w3).mono ?_
    rintro e u3 ⟨rfl, n6, rfl⟩
    go_wp2
    go_ret
    exact ⟨ret_bool (by simp), Grown.drewN (Grown.trans g1 g2) _⟩
end Go.Proofs.Qxb6601259a
