/-
  THE PLAIN LAWS: what the two String methods print for a number below 256, and that the print tells the numbers apart. No Go in sight.
-/
import Derived.Lib.ItoaNum
namespace Go.Proofs.Qxb6600747aDoor
open Go.Lib

/-- The decimal numeral of a number below 1000. -/
def dec3 (u : Nat) : List UInt8 :=
  if u < 10 then [UInt8.ofNat (48 + u)]
  else if u < 100 then [UInt8.ofNat (48 + u / 10), UInt8.ofNat (48 + u % 10)]
  else [UInt8.ofNat (48 + u / 100), UInt8.ofNat (48 + u / 10 % 10), UInt8.ofNat (48 + u % 10)]

theorem decDigits_eq_dec3 (u : Nat) (h : u < 1000) : decDigits u = dec3 u := by
  unfold dec3
  by_cases h1 : u < 10
  · rw [if_pos h1, decDigits_one h1]
  · by_cases h2 : u < 100
    · rw [if_neg h1, if_pos h2, decDigits_two h1 h2]
    · rw [if_neg h1, if_neg h2, decDigits, dif_neg h1]
      rw [decDigits_two (by omega) (by omega)]
      have e : u / 10 / 10 = u / 100 := by omega
      rw [e]
      rfl

/-- What '(Role).String' returns. -/
def roleText (n : Nat) : List UInt8 :=
  if n = 1 then [101, 101] else if n = 2 then [99, 97] else if n = 3 then [114, 111, 111, 116]
  else [82, 111, 108, 101, 40] ++ decDigits n ++ [41]

/-- What '(TNEntryKind).String' returns. -/
def kindText (n : Nat) : List UInt8 :=
  if n = 1 then [115, 112, 99] else if n = 2 then [114, 97, 110, 103, 101] else if n = 3 then [111, 110, 101]
  else [84, 78, 69, 110, 116, 114, 121, 75, 105, 110, 100, 40] ++ decDigits n ++ [41]

/-- Reads a number back: the decimal digits of the text, in order. -/
def num (l : List UInt8) : Nat := l.foldl (fun a c => if 48 ≤ c ∧ c ≤ 57 then a * 10 + (c.toNat - 48) else a) 0
def readRole (l : List UInt8) : Nat := if l = [101, 101] then 1 else if l = [99, 97] then 2 else if l = [114, 111, 111, 116] then 3 else num l
def readKind (l : List UInt8) : Nat := if l = [115, 112, 99] then 1 else if l = [114, 97, 110, 103, 101] then 2 else if l = [111, 110, 101] then 3 else num l

def roleText3 (n : Nat) : List UInt8 :=
  if n = 1 then [101, 101] else if n = 2 then [99, 97] else if n = 3 then [114, 111, 111, 116]
  else [82, 111, 108, 101, 40] ++ dec3 n ++ [41]
def kindText3 (n : Nat) : List UInt8 :=
  if n = 1 then [115, 112, 99] else if n = 2 then [114, 97, 110, 103, 101] else if n = 3 then [111, 110, 101]
  else [84, 78, 69, 110, 116, 114, 121, 75, 105, 110, 100, 40] ++ dec3 n ++ [41]

theorem read_role : ∀ n : Fin 256, readRole (roleText3 n.val) = n.val := by decide +kernel
theorem read_kind : ∀ n : Fin 256, readKind (kindText3 n.val) = n.val := by decide +kernel

theorem roleText_inj {a b : Nat} (ha : a < 256) (hb : b < 256) (h : roleText a = roleText b) : a = b := by
  have e : ∀ n, n < 256 → roleText n = roleText3 n := fun n hn => by
    unfold roleText roleText3; rw [decDigits_eq_dec3 n (by omega)]
  have ra := read_role ⟨a, ha⟩
  have rb := read_role ⟨b, hb⟩
  rw [e a ha, e b hb] at h
  simp only at ra rb
  rw [h] at ra
  exact ra.symm.trans rb
theorem kindText_inj {a b : Nat} (ha : a < 256) (hb : b < 256) (h : kindText a = kindText b) : a = b := by
  have e : ∀ n, n < 256 → kindText n = kindText3 n := fun n hn => by
    unfold kindText kindText3; rw [decDigits_eq_dec3 n (by omega)]
  have ra := read_kind ⟨a, ha⟩
  have rb := read_kind ⟨b, hb⟩
  rw [e a ha, e b hb] at h
  simp only at ra rb
  rw [h] at ra
  exact ra.symm.trans rb
end Go.Proofs.Qxb6600747aDoor
