/-
  The walks: '(Role).String', '(TNEntryKind).String' and the two laws.
-/
import Derived.Test.Qxb6600747aDoorShelf
import Derived.Test.Qxb6600747aDoorPlain
import Derived.WalkKit
import Derived.WalkSpells
import Derived.WalkSmall
import Derived.Outline
import Derived.Lib.ItoaMem
namespace Go.Proofs.Qxb6600747aDoor
open Go.RowKit

theorem gTab : Tryd.prog.globalNamed tabName = some 0 := by kernel_rfl
theorem Tab.pos {w : World} (h : Tab w) : 0 < w.heap.size := by
  rcases Nat.eq_zero_or_pos w.heap.size with h0 | h0
  · have h' : w.var? Tryd.prog tabName = some _ := h
    unfold World.var? at h'
    rw [gTab] at h'
    have e : w.heap[0]? = none := Array.getElem?_eq_none (by omega)
    simp [e] at h'
  · exact h0
theorem Tab.below {w w' : World} (h : Tab w) (hb : Below w.heap.size w w') : Tab w' := var?_below hb gTab h.pos h

theorem below_grow (w : World) (k : Nat) (os : Array Obj) : Below w.heap.size w (Sort.grow (w.drewN k) os) :=
  ⟨rfl, rfl, rfl, by simp [Sort.grow], fun g h => by simp [Sort.grow, Array.getElem?_append, h]⟩

theorem ret_string {a b : ByteArray} (h : a = b) : Ending.returned (.string a) = .returned (.string b) := by rw [h]
theorem app3 (p q : List UInt8) (l : List UInt8) : (⟨p.toArray⟩ ++ ⟨l.toArray⟩ ++ ⟨q.toArray⟩ : ByteArray) = ⟨(p ++ l ++ q).toArray⟩ := by
  rw [ByteArray.mk_append_mk, ByteArray.mk_append_mk]
theorem role_fit {n : Nat} {s : ByteArray} (h : n ≠ 1 ∧ n ≠ 2 ∧ n ≠ 3) (hs : s = ⟨(Lib.itoa (n : Int)).toArray⟩) : (⟨#[82, 111, 108, 101, 40]⟩ ++ s ++ ⟨#[41]⟩ : ByteArray) = ⟨(roleText n).toArray⟩ := by
  rw [hs, Lib.itoa_nonneg, roleText, if_neg h.1, if_neg h.2.1, if_neg h.2.2]
  exact app3 [82, 111, 108, 101, 40] [41] _
theorem kind_fit {n : Nat} {s : ByteArray} (h : n ≠ 1 ∧ n ≠ 2 ∧ n ≠ 3) (hs : s = ⟨(Lib.itoa (n : Int)).toArray⟩) : (⟨#[84, 78, 69, 110, 116, 114, 121, 75, 105, 110, 100, 40]⟩ ++ s ++ ⟨#[41]⟩ : ByteArray) = ⟨(kindText n).toArray⟩ := by
  rw [hs, Lib.itoa_nonneg, kindText, if_neg h.1, if_neg h.2.1, if_neg h.2.2]
  exact app3 [84, 78, 69, 110, 116, 114, 121, 75, 105, 110, 100, 40] [41] _

set_option maxHeartbeats 400000 in
theorem role_any (n : Nat) (hn : n < 256) (w : World) (htab : Tab w) :
    Calls Tryd.prog 5 #[.int .u8 n] w fun e w' => e = .returned (.string ⟨(roleText n).toArray⟩) ∧ Below w.heap.size w w' := by
  by_cases h1 : n = 1
  · subst h1
    go_enter Tryd.func5, Tryd.ntmps5
    go_wp2
    go_ret
    exact ⟨rfl, Below.refl _ _⟩
  by_cases h2 : n = 2
  · subst h2
    go_enter Tryd.func5, Tryd.ntmps5
    go_wp2
    go_ret
    exact ⟨rfl, Below.refl _ _⟩
  by_cases h3 : n = 3
  · subst h3
    go_enter Tryd.func5, Tryd.ntmps5
    go_wp2
    go_ret
    exact ⟨rfl, Below.refl _ _⟩
  have K : Hid (n ≠ 1 ∧ n ≠ 2 ∧ n ≠ 3) := ⟨h1, h2, h3⟩
  have q1 : ((n : Int) == 1) = false := beq_eq_false_iff_ne.2 (by omega)
  have q2 : ((n : Int) == 2) = false := beq_eq_false_iff_ne.2 (by omega)
  have q3 : ((n : Int) == 3) = false := beq_eq_false_iff_ne.2 (by omega)
  clear h1 h2 h3
  have HT : Hid (Tab w) := htab
  clear htab
  go_enter Tryd.func5, Tryd.ntmps5
  go_wp2_with fail
  refine (itoa_any n (by omega) (by omega) _ HT.out).mono ?_
  rintro e w1 ⟨rfl, k, os, rfl⟩
  have hb := below_grow w k os
  obtain ⟨s, hs⟩ : ∃ s : ByteArray, s = ⟨(Lib.itoa (n : Int)).toArray⟩ := ⟨_, rfl⟩
  have hz : s.size ≤ 3 := by
    rw [hs, Lib.itoa_nonneg, decDigits_eq_dec3 n (by omega)]
    show (dec3 n).toArray.size ≤ 3
    unfold dec3
    split
    · simp
    · split <;> simp
  have HS : Hid (s = ⟨(Lib.itoa (n : Int)).toArray⟩) := hs
  rw [← hs]
  clear hs
  generalize Sort.grow (w.drewN k) os = w1 at hb ⊢
  go_wp2
  go_ret
  refine ⟨?_, hb⟩
  exact ret_string (role_fit K.out HS.out)
set_option maxHeartbeats 400000 in
theorem kind_any (n : Nat) (hn : n < 256) (w : World) (htab : Tab w) :
    Calls Tryd.prog 6 #[.int .u8 n] w fun e w' => e = .returned (.string ⟨(kindText n).toArray⟩) ∧ Below w.heap.size w w' := by
  by_cases h1 : n = 1
  · subst h1
    go_enter Tryd.func6, Tryd.ntmps6
    go_wp2
    go_ret
    exact ⟨rfl, Below.refl _ _⟩
  by_cases h2 : n = 2
  · subst h2
    go_enter Tryd.func6, Tryd.ntmps6
    go_wp2
    go_ret
    exact ⟨rfl, Below.refl _ _⟩
  by_cases h3 : n = 3
  · subst h3
    go_enter Tryd.func6, Tryd.ntmps6
    go_wp2
    go_ret
    exact ⟨rfl, Below.refl _ _⟩
  have K : Hid (n ≠ 1 ∧ n ≠ 2 ∧ n ≠ 3) := ⟨h1, h2, h3⟩
  have q1 : ((n : Int) == 1) = false := beq_eq_false_iff_ne.2 (by omega)
  have q2 : ((n : Int) == 2) = false := beq_eq_false_iff_ne.2 (by omega)
  have q3 : ((n : Int) == 3) = false := beq_eq_false_iff_ne.2 (by omega)
  clear h1 h2 h3
  have HT : Hid (Tab w) := htab
  clear htab
  go_enter Tryd.func6, Tryd.ntmps6
  go_wp2_with fail
  refine (itoa_any n (by omega) (by omega) _ HT.out).mono ?_
  rintro e w1 ⟨rfl, k, os, rfl⟩
  have hb := below_grow w k os
  obtain ⟨s, hs⟩ : ∃ s : ByteArray, s = ⟨(Lib.itoa (n : Int)).toArray⟩ := ⟨_, rfl⟩
  have hz : s.size ≤ 3 := by
    rw [hs, Lib.itoa_nonneg, decDigits_eq_dec3 n (by omega)]
    show (dec3 n).toArray.size ≤ 3
    unfold dec3
    split
    · simp
    · split <;> simp
  have HS : Hid (s = ⟨(Lib.itoa (n : Int)).toArray⟩) := hs
  rw [← hs]
  clear hs
  generalize Sort.grow (w.drewN k) os = w1 at hb ⊢
  go_wp2
  go_ret
  refine ⟨?_, hb⟩
  exact ret_string (kind_fit K.out HS.out)

theorem ret_true {x : Bool} (h : x = true) : Ending.returned (.bool x) = .returned (.bool true) := by rw [h]
theorem tells {f : Nat → List UInt8} {a b : Nat} (h : f a = f b → a = b) : ((f a == f b) == ((a : Int) == (b : Int))) = true := by
  by_cases e : a = b
  · subst e; simp
  · have e1 : (f a == f b) = false := beq_eq_false_iff_ne.2 (fun x => e (h x))
    have e2 : ((a : Int) == (b : Int)) = false := beq_eq_false_iff_ne.2 (by omega)
    rw [e1, e2]; rfl

set_option maxHeartbeats 400000 in
theorem roleLaw (a b : Nat) (ha : a < 256) (hb : b < 256) (w : World) (htab : Tab w) :
    Calls Tryd.prog 3 #[.int .u8 a, .int .u8 b] w fun e w' => e = .returned (.bool true) ∧ Below w.heap.size w w' := by
  have HT : Hid (Tab w) := htab
  clear htab
  go_enter Tryd.func3, Tryd.ntmps3
  go_wp2_with fail
  refine (role_any a ha _ HT.out).mono ?_
  rintro e w1 ⟨rfl, b1⟩
  go_wp2_with fail
  refine (role_any b hb _ (HT.out.below b1)).mono ?_
  rintro e w2 ⟨rfl, b2⟩
  have bb : Below w.heap.size w w2 := b1.trans (b2.mono b1.size)
  clear b1 b2
  go_wp2
  go_ret
  exact ⟨ret_true (tells (roleText_inj ha hb)), bb⟩

set_option maxHeartbeats 400000 in
theorem kindLaw (a b : Nat) (ha : a < 256) (hb : b < 256) (w : World) (htab : Tab w) :
    Calls Tryd.prog 4 #[.int .u8 a, .int .u8 b] w fun e w' => e = .returned (.bool true) ∧ Below w.heap.size w w' := by
  have HT : Hid (Tab w) := htab
  clear htab
  go_enter Tryd.func4, Tryd.ntmps4
  go_wp2_with fail
  refine (kind_any a ha _ HT.out).mono ?_
  rintro e w1 ⟨rfl, b1⟩
  go_wp2_with fail
  refine (kind_any b hb _ (HT.out.below b1)).mono ?_
  rintro e w2 ⟨rfl, b2⟩
  have bb : Below w.heap.size w w2 := b1.trans (b2.mono b1.size)
  clear b1 b2
  go_wp2
  go_ret
  exact ⟨ret_true (tells (kindText_inj ha hb)), bb⟩
end Go.Proofs.Qxb6600747aDoor
