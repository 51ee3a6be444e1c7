/-
  PLAIN LAWS on hexadecimal digits: no Go in sight.
-/
namespace Go.Proofs.Qxb6601329a

/-- Is the number (a byte) a hexadecimal digit's code? -/
def hok (c : Int) : Bool := (decide (48 ≤ c) && decide (c ≤ 57)) || (decide (97 ≤ c) && decide (c ≤ 102)) || (decide (65 ≤ c) && decide (c ≤ 70))
/-- The digit's value; 0 where it is none. -/
def hx (c : Int) : Int := if 48 ≤ c ∧ c ≤ 57 then c - 48 else if 97 ≤ c ∧ c ≤ 102 then c - 87 else if 65 ≤ c ∧ c ≤ 70 then c - 55 else 0
theorem hx_bd (c : Int) : 0 ≤ hx c ∧ hx c ≤ 15 := by
  unfold hx
  split
  · omega
  · split
    · omega
    · split <;> omega
theorem hok_iff (c : Int) : hok c = true ↔ (48 ≤ c ∧ c ≤ 57) ∨ (97 ≤ c ∧ c ≤ 102) ∨ (65 ≤ c ∧ c ≤ 70) := by
  unfold hok; simp only [Bool.or_eq_true, Bool.and_eq_true, decide_eq_true_eq, or_assoc]
theorem hx_dec {c : Int} (h : 48 ≤ c ∧ c ≤ 57) : hx c = c - 48 := by unfold hx; rw [if_pos h]
theorem hx_low {c : Int} (h : 97 ≤ c ∧ c ≤ 102) : hx c = c - 87 := by unfold hx; rw [if_neg (by omega), if_pos h]
theorem hx_up {c : Int} (h : 65 ≤ c ∧ c ≤ 70) : hx c = c - 55 := by unfold hx; rw [if_neg (by omega), if_neg (by omega), if_pos h]
theorem hx_no {c : Int} (h : hok c = false) : hx c = 0 := by
  have : ¬ ((48 ≤ c ∧ c ≤ 57) ∨ (97 ≤ c ∧ c ≤ 102) ∨ (65 ≤ c ∧ c ≤ 70)) := fun x => by rw [(hok_iff c).2 x] at h; cases h
  unfold hx; rw [if_neg (by omega), if_neg (by omega), if_neg (by omega)]

theorem hok_no {c : Int} (h1 : ¬ (48 ≤ c ∧ c ≤ 57)) (h2 : ¬ (97 ≤ c ∧ c ≤ 102)) (h3 : ¬ (65 ≤ c ∧ c ≤ 70)) : hok c = false := by
  cases hc : hok c with
  | false => rfl
  | true =>
    rcases (hok_iff _).1 hc with h | h | h
    · exact absurd h h1
    · exact absurd h h2
    · exact absurd h h3

/-- The two rows of digits, by place. -/
def lowAt (i : Int) : Int := if i < 10 then 48 + i else 87 + i
def upAt (i : Int) : Int := if i < 10 then 48 + i else 55 + i
theorem hit {c i : Int} (h0 : 0 ≤ i) (h16 : i < 16) (h : lowAt i = c ∨ upAt i = c) : hok c = true ∧ hx c = i := by
  unfold lowAt upAt at h
  by_cases hi : i < 10
  · rw [if_pos hi] at h
    have hc : 48 ≤ c ∧ c ≤ 57 := by omega
    exact ⟨(hok_iff c).2 (.inl hc), by rw [hx_dec hc]; omega⟩
  · rw [if_neg hi, if_neg hi] at h
    rcases h with h | h
    · have hc : 97 ≤ c ∧ c ≤ 102 := by omega
      exact ⟨(hok_iff c).2 (.inr (.inl hc)), by rw [hx_low hc]; omega⟩
    · have hc : 65 ≤ c ∧ c ≤ 70 := by omega
      exact ⟨(hok_iff c).2 (.inr (.inr hc)), by rw [hx_up hc]; omega⟩
theorem miss {c : Int} (h : ∀ i : Nat, i < 16 → lowAt i ≠ c ∧ upAt i ≠ c) : hok c = false := by
  cases hc : hok c with
  | false => rfl
  | true =>
    rcases (hok_iff c).1 hc with h1 | h1 | h1
    · exact absurd (by unfold lowAt; rw [if_pos (by omega)]; omega) (h (c - 48).toNat (by omega)).1
    · exact absurd (by unfold lowAt; rw [if_neg (by omega)]; omega) (h (c - 87).toNat (by omega)).1
    · exact absurd (by unfold upAt; rw [if_neg (by omega)]; omega) (h (c - 55).toNat (by omega)).2

/-- escapedRune's sum over the digits d 2, d 3, ..: sixteen times what was, and the next. -/
def acc (d : Nat → Int) : Nat → Int
  | 0 => 0
  | j + 1 => acc d j * 16 + hx (d (2 + j))
theorem acc_bd (d : Nat → Int) : ∀ j, 0 ≤ acc d j ∧ acc d j + 1 ≤ (16 ^ j : Nat)
  | 0 => ⟨by simp [acc], by simp [acc]⟩
  | j + 1 => by
    obtain ⟨a, b⟩ := acc_bd d j
    have := hx_bd (d (2 + j))
    have e : ((16 ^ (j + 1) : Nat) : Int) = (16 ^ j : Nat) * 16 := by rw [Nat.pow_succ]; simp
    simp only [acc]
    rw [e]
    omega
theorem acc_le (d : Nat → Int) (j : Nat) (hj : j ≤ 3) : 0 ≤ acc d j ∧ acc d j ≤ 4095 := by
  obtain ⟨a, b⟩ := acc_bd d j
  have h3 : 16 ^ j ≤ 16 ^ 3 := Nat.pow_le_pow_right (by omega) hj
  have h4 : (16 ^ 3 : Nat) = 4096 := by decide
  rw [h4] at h3
  omega
theorem acc4 (d : Nat → Int) : acc d 4 = hx (d 2) * 4096 + hx (d 3) * 256 + hx (d 4) * 16 + hx (d 5) := by
  show ((((0 * 16 + hx (d 2)) * 16 + hx (d 3)) * 16 + hx (d 4)) * 16 + hx (d 5)) = _
  omega
/-- What both functions answer at six bytes or more. -/
def escOut (d : Nat → Int) : Int × Bool :=
  if d 0 = 92 ∧ d 1 = 117 ∧ hok (d 2) = true ∧ hok (d 3) = true ∧ hok (d 4) = true ∧ hok (d 5) = true then (acc d 4, true) else (0, false)
theorem or_add (a b : Nat) (hb : b < 16) : a * 16 ||| b = a * 16 + b := by
  have := Nat.shiftLeft_add_eq_or_of_lt (show b < 2 ^ 4 by omega) a
  rw [Nat.shiftLeft_eq] at this
  exact this.symm
end Go.Proofs.Qxb6601329a
