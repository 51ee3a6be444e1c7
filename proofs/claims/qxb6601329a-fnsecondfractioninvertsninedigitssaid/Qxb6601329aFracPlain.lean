/-
  THE PLAIN LAWS on the fraction of a second: no Go in sight.
-/
namespace Go.Proofs.Qxb6601329a

theorem len_toList (s : ByteArray) : s.data.toList.length = s.size := Array.length_toList
theorem at_toList (s : ByteArray) (k : Nat) (h : k < s.size) : s.data.toList[k]? = some s[k] := by
  rw [List.getElem?_eq_getElem (by rw [len_toList]; exact h)]; rfl

/-- Is the byte a decimal digit? -/
def isDig (c : UInt8) : Bool := 48 ≤ c.toNat && c.toNat ≤ 57
theorem isDig_iff (c : UInt8) : isDig c = true ↔ 48 ≤ (c.toNat : Int) ∧ (c.toNat : Int) ≤ 57 := by
  unfold isDig; rw [Bool.and_eq_true, decide_eq_true_eq, decide_eq_true_eq]; omega

/-- A list opens with a run of digits, as long as can be. -/
theorem run_exists (l : List UInt8) : ∃ k, k ≤ l.length ∧ (∀ i, i < k → ∃ c, l[i]? = some c ∧ isDig c = true) ∧ (∀ c, l[k]? = some c → isDig c = false) := by
  induction l with
  | nil => exact ⟨0, Nat.le_refl _, fun i hi => absurd hi (by omega), fun c h => by simp at h⟩
  | cons x r ih =>
    cases hx : isDig x with
    | false => exact ⟨0, Nat.zero_le _, fun i hi => absurd hi (by omega), fun c h => by simp at h; subst h; exact hx⟩
    | true =>
      obtain ⟨k, hk, h1, h2⟩ := ih
      refine ⟨k + 1, by simp; omega, fun i hi => ?_, fun c h => h2 c (by simpa using h)⟩
      cases i with
      | zero => exact ⟨x, rfl, hx⟩
      | succ i => exact (by simpa using h1 i (by omega))

/-- WHAT IS KNOWN OF A TEXT THAT OPENS WITH '.' AND k DIGITS, and no digit behind them. -/
structure Frac (s : ByteArray) (k : Nat) : Prop where
  pos : 1 + k ≤ s.size
  dig : ∀ m (h : m < s.size), 1 ≤ m → m ≤ k → 48 ≤ (s[m].toNat : Int) ∧ (s[m].toNat : Int) ≤ 57
  stop : ∀ m (h : m < s.size), m = k + 1 → ¬ (48 ≤ (s[m].toNat : Int) ∧ (s[m].toNat : Int) ≤ 57)

theorem frac_exists (s : ByteArray) (h : 0 < s.size) : ∃ k, Frac s k := by
  obtain ⟨k, hk, h1, h2⟩ := run_exists (s.data.toList.drop 1)
  rw [List.length_drop, len_toList] at hk
  refine ⟨k, by omega, fun m hm h0 hmk => ?_, fun m hm e hc => ?_⟩
  · obtain ⟨c, hc, hd⟩ := h1 (m - 1) (by omega)
    rw [List.getElem?_drop, show 1 + (m - 1) = m by omega, at_toList s m hm] at hc
    rw [Option.some.inj hc]
    exact (isDig_iff c).1 hd
  · have := h2 s[m] (by rw [List.getElem?_drop, show 1 + k = m by omega, at_toList s m hm])
    rw [(isDig_iff _).2 hc] at this
    cases this

/-- The value of the i-th digit behind the point; 0 behind the k-th. -/
def digAt (s : ByteArray) (k i : Nat) : Int := if i < k then ((s.data.toList.getD (1 + i) 0).toNat : Int) - 48 else 0
theorem digAt_at {s : ByteArray} {k i m : Nat} (hm : m < s.size) (e : m = 1 + i) (hi : i < k) : digAt s k i = (s[m].toNat : Int) - 48 := by
  subst e
  unfold digAt
  rw [if_pos hi, List.getD_eq_getElem?_getD, at_toList s _ hm]
  rfl
theorem digAt_out {s : ByteArray} {k i : Nat} (hi : ¬ i < k) : digAt s k i = 0 := by unfold digAt; rw [if_neg hi]
theorem Frac.bd {s : ByteArray} {k : Nat} (F : Frac s k) (i : Nat) : 0 ≤ digAt s k i ∧ digAt s k i ≤ 9 := by
  by_cases hi : i < k
  · have hm : 1 + i < s.size := by have := F.pos; omega
    have := F.dig (1 + i) hm (by omega) (by omega)
    rw [digAt_at hm rfl hi]
    omega
  · rw [digAt_out hi]; omega

/-- secondFraction's sum: ten times what was, and the next digit. -/
def horner (d : Nat → Int) : Nat → Int
  | 0 => 0
  | i + 1 => horner d i * 10 + d i
/-- The model's sum: the digits weighted by place. -/
def placed (d : Nat → Int) : Nat → Int
  | 0 => 0
  | i + 1 => placed d i + d i * (10 ^ (8 - i) : Nat)

theorem horner_bd (d : Nat → Int) (h : ∀ i, 0 ≤ d i ∧ d i ≤ 9) : ∀ i, 0 ≤ horner d i ∧ horner d i + 1 ≤ (10 ^ i : Nat)
  | 0 => ⟨by simp [horner], by simp [horner]⟩
  | i + 1 => by
    obtain ⟨a, b⟩ := horner_bd d h i
    have := h i
    have e : ((10 ^ (i + 1) : Nat) : Int) = (10 ^ i : Nat) * 10 := by rw [Nat.pow_succ]; simp
    simp only [horner]
    rw [e]
    omega

theorem horner_placed (d : Nat → Int) : ∀ i, i ≤ 9 → horner d i * (10 ^ (9 - i) : Nat) = placed d i
  | 0, _ => by simp [horner, placed]
  | i + 1, h => by
    have ih := horner_placed d i (by omega)
    have e : (10 ^ (9 - i) : Nat) = 10 * 10 ^ (9 - (i + 1)) := by
      rw [show 9 - i = (9 - (i + 1)) + 1 by omega, Nat.pow_succ, Nat.mul_comm]
    have e2 : 9 - (i + 1) = 8 - i := by omega
    rw [e] at ih
    simp only [horner, placed]
    rw [← ih, ← e2]
    rw [Int.add_mul, Int.mul_assoc]
    simp

theorem placed_stop (d : Nat → Int) (k : Nat) (h : ∀ i, k ≤ i → d i = 0) : ∀ i, k ≤ i → placed d i = placed d k := by
  intro i hi
  induction i with
  | zero => rw [show k = 0 by omega]
  | succ i ih =>
    by_cases e : k = i + 1
    · rw [e]
    · rw [placed, h i (by omega), ih (by omega)]; simp

/-- THE LAW: the two sums are one. -/
theorem sums (d : Nat → Int) (k : Nat) (h : ∀ i, k ≤ i → d i = 0) : horner d 9 = placed d (min k 9) := by
  have e := horner_placed d 9 (by omega)
  simp only [Nat.sub_self, Nat.pow_zero] at e
  have e1 : horner d 9 = placed d 9 := by simpa using e
  rw [e1]
  by_cases hk : k ≤ 9
  · rw [Nat.min_eq_left hk, placed_stop d k h 9 hk]
  · rw [Nat.min_eq_right (by omega)]
theorem Frac.ends {s : ByteArray} {k m : Nat} (F : Frac s k) (e : m = k + 1) : (∃ h : m < s.size, 57 < (s[m].toNat : Int) ∧ 48 ≤ (s[m].toNat : Int)) ∨ (∃ h : m < s.size, (s[m].toNat : Int) < 48) ∨ s.size ≤ m := by
  by_cases hm : m < s.size
  · have := F.stop m hm e
    by_cases h48 : 48 ≤ (s[m].toNat : Int)
    · exact .inl ⟨hm, by omega, h48⟩
    · exact .inr (.inl ⟨hm, by omega⟩)
  · exact .inr (.inr (by omega))
/-- The run of digits, cut out. -/
theorem cut_size {s : ByteArray} {a b : Nat} (h : b ≤ s.size) : (s.extract a b).size = b - a := by
  rw [ByteArray.size_extract]; omega
theorem cut_at {s : ByteArray} {a b i : Nat} (h : i < (s.extract a b).size) (h' : a + i < s.size) : (s.extract a b)[i] = s[a + i] := by
  rw [ByteArray.getElem_extract]
theorem Frac.cut {s ds : ByteArray} {k m : Nat} (F : Frac s k) (e : m = k + 1) (hds : ds = s.extract 1 m) : ds.size = k ∧ ∀ i (h : i < ds.size), (ds[i].toNat : Int) = digAt s k i + 48 := by
  have hp := F.pos
  subst hds e
  have hz : (s.extract 1 (k + 1)).size = k := by rw [cut_size (by omega)]; omega
  refine ⟨hz, fun i h => ?_⟩
  have h' : 1 + i < s.size := by omega
  rw [cut_at h h', digAt_at h' rfl (by omega)]
  omega
theorem Frac.horner_le {s : ByteArray} {k : Nat} (F : Frac s k) (j : Nat) (hj : j ≤ 9) : 0 ≤ horner (digAt s k) j ∧ horner (digAt s k) j ≤ 999999999 := by
  obtain ⟨h1, h2⟩ := horner_bd (digAt s k) F.bd j
  have h3 : 10 ^ j ≤ 10 ^ 9 := Nat.pow_le_pow_right (by omega) hj
  have h4 : (10 ^ 9 : Nat) = 1000000000 := by decide
  rw [h4] at h3
  omega
/-- 'zzPow10'. -/
def p10 (x : Int) : Int := (10 ^ x.toNat : Nat)
theorem p10_bd {x : Int} (h : x ≤ 8) : 1 ≤ p10 x ∧ p10 x ≤ 100000000 := by
  unfold p10
  have h1 : 10 ^ x.toNat ≤ 10 ^ 8 := Nat.pow_le_pow_right (by omega) (by omega)
  have h4 : (10 ^ 8 : Nat) = 100000000 := by decide
  have h2 : 0 < 10 ^ x.toNat := Nat.pow_pos (by omega)
  rw [h4] at h1
  omega
theorem prod_bd {d p : Int} (h1 : 0 ≤ d) (h2 : d ≤ 9) (h3 : 1 ≤ p) (h4 : p ≤ 100000000) : 0 ≤ d * p ∧ d * p ≤ 900000000 := by
  refine ⟨Int.mul_nonneg h1 (by omega), ?_⟩
  have a : d * p ≤ 9 * p := Int.mul_le_mul_of_nonneg_right h2 (by omega)
  omega
theorem placed_succ (d : Nat → Int) (j : Nat) (hj : j < 9) : placed d (j + 1) = placed d j + d j * p10 (8 - (j : Int)) := by
  have e : (8 - (j : Int)).toNat = 8 - j := by omega
  unfold p10
  rw [e, placed]
theorem Frac.placed_le {s : ByteArray} {k : Nat} (F : Frac s k) (j : Nat) (hj : j ≤ 9) : 0 ≤ placed (digAt s k) j ∧ placed (digAt s k) j ≤ 1000000000 := by
  obtain ⟨h1, h2⟩ := horner_bd (digAt s k) F.bd j
  have e := horner_placed (digAt s k) j hj
  have e2 : ((10 ^ j : Nat) : Int) * (10 ^ (9 - j) : Nat) = 1000000000 := by
    have : (10 ^ j * 10 ^ (9 - j) : Nat) = 1000000000 := by
      rw [← Nat.pow_add, show j + (9 - j) = 9 by omega]
    rw [← Int.natCast_mul, this]; rfl
  have hp : (0 : Int) ≤ ((10 ^ (9 - j) : Nat) : Int) := Int.natCast_nonneg _
  constructor
  · rw [← e]; exact Int.mul_nonneg h1 hp
  · rw [← e, ← e2]
    exact Int.mul_le_mul_of_nonneg_right (by omega) hp
theorem Frac.sum {s : ByteArray} {k : Nat} (_F : Frac s k) : horner (digAt s k) 9 = placed (digAt s k) (min k 9) :=
  sums _ k (fun _ hi => digAt_out (by omega))
end Go.Proofs.Qxb6601329a
