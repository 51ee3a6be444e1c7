/-
  What the walks are told of memory: slices of uint32, slices of ZPair; small contracts.
-/
import Derived.Test.Qxb6601243aRows
import Derived.WalkKit
import Derived.WalkSpells
import Derived.Below
import Derived.WalkSmall
import Derived.Outline
import Derived.Deep.QuietTactic
import Derived.BigQuiet
namespace Go.Proofs.Qxb6601243a
open Go.RowKit

/-- A slice of n numbers of uint32 that begins at a: nil, empty, or a row. -/
def URow (w : World) (a : Option Addr) (n : Nat) (z : Nat → Int) : Prop :=
  (a = none → n = 0) ∧ (0 < n → ∃ b o, a = some ⟨b, o, none⟩ ∧ ∀ i, i < n → w.cell? ⟨b, o + i, none⟩ = some (.int .u32 (z i)))

/-- n elements of ZPair (seven cells each) from place o of block b on. -/
structure ZPs (w : World) (b o n : Nat) (hd : Nat → Nat → Int) (sa : Nat → Nat → Option Addr) (sn sc : Nat → Nat → Nat) (z : Nat → Nat → Nat → Int) : Prop where
  head : ∀ p, p < n → ∀ i, i < 2 → w.cell? ⟨b, o + p * 7 + i, none⟩ = some (.int .u32 (hd p i))
  bd : ∀ p i, 0 ≤ hd p i ∧ hd p i ≤ 4294967295
  sl : ∀ p, p < n → ∀ q, q < 5 → w.cell? ⟨b, o + p * 7 + (2 + q), none⟩ = some (.slice (sa p q) (sn p q) (sc p q))
  row : ∀ p, p < n → ∀ q, q < 5 → URow w (sa p q) (sn p q) (z p q)
  len : ∀ p, p < n → ∀ q, q < 5 → sn p q ≤ maxLen
  nil : ∀ p, p < n → ∀ q, q < 5 → sa p q = none → sc p q = 0

set_option maxHeartbeats 400000 in
/-- addBytes: between 0 and the limit and one; at most the limit only where both were. -/
theorem add_any (t l x : Int) (w : World) (h0 : 0 ≤ t) (h1 : 0 ≤ l) (h2 : 0 ≤ x) (h3 : x ≤ 128) (ht : t ≤ 1048577) :
    Calls Try.prog 26 #[.int .i64 t, .int .i64 l, .int .i64 x] w fun e w' => ∃ r : Int, e = .returned (.int .i64 r) ∧ 0 ≤ r ∧ r ≤ 1048577 ∧ (r ≤ 1048576 → t ≤ 1048576 ∧ l ≤ 1048576) ∧ w' = w := by
  by_cases ha : t ≤ 1048576
  · by_cases hb : l ≤ 1048576
    · have hm0 : 0 ≤ l * x := Int.mul_nonneg h1 h2
      have hm1 : l * x ≤ 134217728 := by
        have a : l * x ≤ 1048576 * x := Int.mul_le_mul_of_nonneg_right hb h2
        omega
      go_enter Try.func26, Try.ntmps26
      go_wp2
      all_goals (go_ret; exact ⟨_, rfl, by omega, by omega, by omega, rfl⟩)
    · go_enter Try.func26, Try.ntmps26
      go_wp2
      all_goals (go_ret; exact ⟨_, rfl, by omega, by omega, by omega, rfl⟩)
  · go_enter Try.func26, Try.ntmps26
    go_wp2
    all_goals (go_ret; exact ⟨_, rfl, by omega, by omega, by omega, rfl⟩)
end Go.Proofs.Qxb6601243a
