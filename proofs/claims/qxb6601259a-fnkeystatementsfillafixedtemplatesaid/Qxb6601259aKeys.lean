/-
  'keyStatementsOf' and 'ZZKeyStatementsOf': contracts.
-/
import Derived.Test.Qxb6601259aText
import Derived.RowKit3
namespace Go.Proofs.Qxb6601259a
open Go.RowKit
theorem Grown.trans {a b c : World} (h1 : Grown a b) (h2 : Grown b c) : Grown a c :=
  ⟨World.keptBut_trans h1.1 h2.1, fun x => (h2.2.1 x).trans (h1.2.1 x), Nat.le_trans h1.2.2 h2.2.2⟩
theorem Grown.drewN {a b : World} (h : Grown a b) (n : Nat) : Grown a (b.drewN n) := h

set_option maxHeartbeats 400000 in
theorem key17 (c r : ByteArray) (w : World) (hc : c.size ≤ 65536) (hr : r.size ≤ 65536) :
    Calls Try.prog 17 #[.string c, .string r] w fun e w' => e = .returned (.agg #[.string (lockOf c), .string (readOf c r)]) ∧ w' = w.alloc (.cells #[.string (lockOf c), .string (readOf c r)] 32) := by
  go_enter Try.func17, Try.ntmps17
  go_wp2
  exact bodyPost_ret (v := .agg #[.string (lockOf c), .string (readOf c r)]) (by simp [results, Try.results17, go_sem]; exact ⟨rfl, rfl⟩) rfl ⟨rfl, rfl⟩
set_option maxHeartbeats 400000 in
theorem key13 (c r : ByteArray) (w : World) (hc : c.size ≤ 65536) (hr : r.size ≤ 65536) :
    Calls Try.prog 13 #[.string c, .string r] w fun e w' => e = .returned (.tuple #[.string (lockOf c), .string (readOf c r)]) ∧ Grown w w' := by
  go_enter Try.func13, Try.ntmps13
  go_wp2_with (go_at_call 17; refine (key17 c r _ hc hr).mono ?_; rintro e w' ⟨rfl, rfl⟩)
  go_quiet (fail)
  go_wp2
  go_ret2
  exact ⟨rfl, Grown.drewN (((RowKit.Grown.refl _).alloc _ _).alloc _ _) _⟩
end Go.Proofs.Qxb6601259a
