/-
  'firstDiff' and 'FnKeyStatementsFillAFixedTemplate': the walks.
-/
import Derived.Test.Qxb6601259aKeys
import Derived.Test.Qxb6601259aFillPlain
namespace Go.Proofs.Qxb6601259a
open Go.RowKit
theorem take_at {a b : ByteArray} {k j : Nat} (h : a.data.toList.take k = b.data.toList.take k) (hj : j < k) (ha : j < a.size) (hb : j < b.size) : a[j] = b[j] := by
  have e : (a.data.toList.take k)[j]? = (b.data.toList.take k)[j]? := by rw [h]
  rw [List.getElem?_take_of_lt hj, List.getElem?_take_of_lt hj, at_toList a j ha, at_toList b j hb] at e
  exact Option.some.inj e

set_option maxHeartbeats 400000 in
theorem firstDiff_at (a b : ByteArray) (k : Nat) (hpre : a.data.toList.take k = b.data.toList.take k) (hne : a.data.toList[k]? ≠ b.data.toList[k]?) (hka : k < a.size) (hkb : k < b.size) (ha : a.size ≤ maxLen) (w : World) :
    Calls Try.prog 14 #[.string a, .string b] w fun e w' => e = .returned (.int .i64 k) ∧ ∃ n, w' = w.drewN n := by
  unfold maxLen at ha
  have HP : Hid (a.data.toList.take k = b.data.toList.take k) := hpre
  have HN : Hid (a[k] ≠ b[k]) := fun e => hne (by rw [at_toList a k hka, at_toList b k hkb, e])
  clear hpre hne
  go_enter Try.func14, Try.ntmps14
  go_wp2
  go_loopw [5] (fun i w1 => ∃ j : Nat, j ≤ k ∧ i = .int .i64 j ∧ ∃ n, w1 = w.drewN n) (fun i _ => k - (intOf i).toNat)
  case atStart => exact ⟨0, Nat.zero_le _, rfl, 0, rfl⟩
  case round =>
    obtain ⟨j, hj, rfl, n, rfl⟩ := hrel
    have hja : j < a.size := by omega
    have hjb : j < b.size := by omega
    have hi1 : (j : Int) < (a.size : Int) := by omega
    have hi2 : (j : Int) < (b.size : Int) := by omega
    by_cases hlt : j < k
    · have hx : ((a[j].toNat : Int) != (b[j].toNat : Int)) = false := by rw [take_at HP.out hlt hja hjb]; simp
      go_wp2
      go_quiet (fail)
      go_wp2
      exact ⟨⟨j + 1, by omega, by go_num, _, rfl⟩, by simp [intOf]; omega⟩
    · obtain rfl : j = k := by omega
      have hx : ((a[j].toNat : Int) != (b[j].toNat : Int)) = true := by
        rw [bne_iff_ne]; intro e; exact HN.out (UInt8.toNat_inj.1 (by omega))
      go_wp2
      go_quiet (fail)
      go_wp2
      go_ret
      exact ⟨rfl, n + nq, by simp⟩
set_option maxHeartbeats 400000 in
theorem zz12 (a b : ByteArray) (w : World) (ha : a.size ≤ maxLen) (hb : b.size ≤ maxLen) :
    Calls Try.prog 12 #[.string a, .string b] w fun e w' => ∃ x, e = .returned (.bool x) ∧ w' = w := by
  unfold maxLen at ha hb
  go_enter Try.func12, Try.ntmps12
  go_wp2
  all_goals (go_ret; exact ⟨_, rfl, rfl⟩)

theorem key00 (w : World) : Calls Try.prog 13 #[.string ⟨#[]⟩, .string ⟨#[]⟩] w fun e w' => e = .returned (.tuple #[.string (lockOf E), .string (readOf E E)]) ∧ Grown w w' := key13 E E w (by decide) (by decide)
theorem keyA0 (w : World) : Calls Try.prog 13 #[.string ⟨#[97]⟩, .string ⟨#[]⟩] w fun e w' => e = .returned (.tuple #[.string (lockOf A), .string (readOf A E)]) ∧ Grown w w' := key13 A E w (by decide) (by decide)
theorem keyB0 (w : World) : Calls Try.prog 13 #[.string ⟨#[98]⟩, .string ⟨#[]⟩] w fun e w' => e = .returned (.tuple #[.string (lockOf B), .string (readOf B E)]) ∧ Grown w w' := key13 B E w (by decide) (by decide)
theorem key0A (w : World) : Calls Try.prog 13 #[.string ⟨#[]⟩, .string ⟨#[97]⟩] w fun e w' => e = .returned (.tuple #[.string (lockOf E), .string (readOf E A)]) ∧ Grown w w' := key13 E A w (by decide) (by decide)
theorem key0B (w : World) : Calls Try.prog 13 #[.string ⟨#[]⟩, .string ⟨#[98]⟩] w fun e w' => e = .returned (.tuple #[.string (lockOf E), .string (readOf E B)]) ∧ Grown w w' := key13 E B w (by decide) (by decide)
set_option maxHeartbeats 1000000 in
theorem fill_walk (a0 : ByteArray) (a1 : ByteArray) (w0 : a0.size ≤ maxLen) (w1 : a1.size ≤ maxLen) (w : World) :
    Calls Try.prog 5 #[.string a0, .string a1] w fun e w' => e = .returned (.bool true) ∧ Grown w w' := by
  go_enter Try.func5, Try.ntmps5
  go_wp2_with (go_at_call 12; refine (zz12 _ _ _ w0 w1).mono ?_; rintro e w' ⟨b, rfl, rfl⟩)
  iterate 3 (· go_ret; exact ⟨rfl, RowKit.Grown.refl _⟩)
  have h0 : a0.size ≤ 65536 := by omega
  have h1 : a1.size ≤ 65536 := by omega
  refine (key00 _).mono ?_
  rintro e u1 ⟨rfl, g1⟩
  go_wp2_with fail
  refine (keyA0 _).mono ?_
  rintro e u2 ⟨rfl, g2⟩
  go_wp2_with fail
  refine (keyB0 _).mono ?_
  rintro e u3 ⟨rfl, g3⟩
  go_wp2_with fail
  refine (key0A _).mono ?_
  rintro e u4 ⟨rfl, g4⟩
  go_wp2_with fail
  refine (key0B _).mono ?_
  rintro e u5 ⟨rfl, g5⟩
  go_wp2_with fail
  have g : Grown w' u5 := Grown.trans (Grown.trans (Grown.trans (Grown.trans g1 g2) g3) g4) g5
  clear g1 g2 g3 g4 g5
  have sA : (lockOf A).size = 114 := lockOf_size A
  have sB : (lockOf B).size = 114 := lockOf_size B
  have rA : (readOf A E).size = 107 := readOf_size A E
  have rB : (readOf B E).size = 107 := readOf_size B E
  have qA : (readOf E A).size = 107 := readOf_size E A
  have qB : (readOf E B).size = 107 := readOf_size E B
  have sE : (lockOf E).size = 113 := lockOf_size E
  have rE : (readOf E E).size = 106 := readOf_size E E
  refine (firstDiff_at _ _ 97 lock_pre lock_ne (by omega) (by omega) (by unfold maxLen; omega) _).mono ?_
  rintro e v1 ⟨rfl, n1, rfl⟩
  go_wp2_with fail
  refine (firstDiff_at _ _ 80 read_pre read_ne (by omega) (by omega) (by unfold maxLen; omega) _).mono ?_
  rintro e v1 ⟨rfl, n2, rfl⟩
  go_wp2_with fail
  refine (firstDiff_at _ _ 17 req_pre req_ne (by omega) (by omega) (by unfold maxLen; omega) _).mono ?_
  rintro e v1 ⟨rfl, n3, rfl⟩
  clear sA sB rA rB qA qB
  have x1 : ((lockOf E)[96]'(by omega)) = 40 := at_of lock96 (by omega)
  have x2 : ((lockOf E)[97]'(by omega)) = 41 := at_of lock97 (by omega)
  have x3 : ((readOf E E)[79]'(by omega)) = 40 := at_of read79 (by omega)
  have x4 : ((readOf E E)[80]'(by omega)) = 41 := at_of read80 (by omega)
  go_wp2_with fail
  refine (sameText_val _ _ true ((same_iff _ _).2 rfl) _ (by unfold maxLen; omega) (by unfold maxLen; omega)).mono ?_
  rintro e v1 ⟨rfl, n4, rfl⟩
  go_wp2_with fail
  refine (key13 a0 a1 _ h0 h1).mono ?_
  rintro e u6 ⟨rfl, g6⟩
  go_wp2_with fail
  go_quiet (fail)
  go_wp2_with fail
  go_quiet (fail)
  go_wp2_with fail
  have z0 := lockOf_size a0
  have z1 := readOf_size a0 a1
  have bl : (lockOf a0).size ≤ maxLen := by unfold maxLen; omega
  have br : (readOf a0 a1).size ≤ maxLen := by unfold maxLen; omega
  clear z0 z1 x1 x2 x3 x4 sE rE
  rw [fill_lock a0, fill_read a0 a1]
  refine (sameText_val _ _ true ((same_iff _ _).2 rfl) _ bl bl).mono ?_
  rintro e v1 ⟨rfl, n5, rfl⟩
  go_wp2_with fail
  refine (sameText_val _ _ true ((same_iff _ _).2 rfl) _ br br).mono ?_
  rintro e v1 ⟨rfl, n6, rfl⟩
  go_wp2
  go_ret
  exact ⟨rfl, Grown.drewN (Grown.trans (Grown.drewN g _) g6) _⟩
end Go.Proofs.Qxb6601259a
