/-
  'sameText' and 'firstDiff': contracts.
-/
import Derived.Test.Qxb6601259aRows
import Derived.Test.Qxb6601259aPlain
import Derived.WalkKit
import Derived.WalkSpells
import Derived.Below
import Derived.WalkSmall
import Derived.Outline
import Derived.Deep.QuietTactic
import Derived.BigQuiet
namespace Go.Proofs.Qxb6601259a
open Go.RowKit

theorem ret_bool {x y : Bool} (h : x = y) : Ending.returned (.bool x) = .returned (.bool y) := by rw [h]
theorem ret_int {k : IntKind} {a b : Int} (h : a = b) : Ending.returned (.int k a) = .returned (.int k b) := by rw [h]

set_option maxHeartbeats 400000 in
theorem sameText_any (a b : ByteArray) (w : World) (ha : a.size ≤ maxLen) (_hb : b.size ≤ maxLen) :
    Calls Try.prog 10 #[.string a, .string b] w fun e w' => e = .returned (.bool (same a b)) ∧ ∃ n, w' = w.drewN n := by
  unfold maxLen at ha _hb
  by_cases hl : a.size = b.size
  · have hl1 : a.size ≤ b.size := by omega
    have hl2 : b.size ≤ a.size := by omega
    have hne : ((a.size : Int) != (b.size : Int)) = false := by simp [hl]
    clear hl
    go_enter Try.func10, Try.ntmps10
    go_wp2
    go_loopw [5] (fun i w1 => ∃ k : Nat, k ≤ a.size ∧ i = .int .i64 k ∧ Hid (a.data.toList.take k = b.data.toList.take k) ∧ ∃ n, w1 = w.drewN n) (fun i _ => a.size - (intOf i).toNat)
    case atStart => exact ⟨0, Nat.zero_le _, rfl, rfl, 0, rfl⟩
    case round =>
      obtain ⟨k, hk, rfl, HT, n, rfl⟩ := hrel
      by_cases hlt : k < a.size
      · have hlt2 : k < b.size := by omega
        have hi1 : (k : Int) < (a.size : Int) := by omega
        have hi2 : (k : Int) < (b.size : Int) := by omega
        go_wp2
        go_quiet (fail)
        go_wp2
        · have hx : ((a[k].toNat : Int) != (b[k].toNat : Int)) = true := by assumption
          go_ret
          exact ⟨ret_bool (same_at hlt hlt2 (fun e => by simp [e] at hx)).symm, n + nq, by simp⟩
        · have hx : ((a[k].toNat : Int) != (b[k].toNat : Int)) = false := by assumption
          have he : a[k] = b[k] := by
            simp only [bne_eq_false_iff_eq] at hx
            exact UInt8.toNat_inj.1 (by omega)
          refine ⟨⟨k + 1, by omega, by go_num, ?_, _, rfl⟩, by simp [intOf]; omega⟩
          show _ = _
          rw [take_snoc a k hlt, take_snoc b k hlt2, HT.out, he]
      · go_wp2
        go_ret
        exact ⟨ret_bool (same_true hl1 hl2 k (by omega) HT.out).symm, n, rfl⟩
  · have hne : ((a.size : Int) != (b.size : Int)) = true := by rw [bne_iff_ne]; omega
    go_enter Try.func10, Try.ntmps10
    go_wp2
    go_ret
    exact ⟨ret_bool (same_len hl).symm, 0, rfl⟩
theorem sameText_val (a b : ByteArray) (c : Bool) (h : same a b = c) (w : World) (ha : a.size ≤ maxLen) (hb : b.size ≤ maxLen) :
    Calls Try.prog 10 #[.string a, .string b] w fun e w' => e = .returned (.bool c) ∧ ∃ n, w' = w.drewN n := h ▸ sameText_any a b w ha hb
end Go.Proofs.Qxb6601259a
