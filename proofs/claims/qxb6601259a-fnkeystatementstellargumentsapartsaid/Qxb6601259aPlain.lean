/-
  PLAIN LAWS ON TEXTS: no Go in sight.
-/
namespace Go.Proofs.Qxb6601259a

/-- Two texts are the same, byte for byte. -/
def same (a b : ByteArray) : Bool := a.data.toList == b.data.toList

theorem len_toList (s : ByteArray) : s.data.toList.length = s.size := Array.length_toList

theorem take_snoc (s : ByteArray) (k : Nat) (h : k < s.size) : s.data.toList.take (k + 1) = s.data.toList.take k ++ [s[k]] := by
  rw [List.take_succ_eq_append_getElem (by rw [len_toList]; exact h)]; rfl

theorem take_all (s : ByteArray) : s.data.toList.take s.size = s.data.toList := List.take_of_length_le (by rw [len_toList]; omega)

theorem same_iff (a b : ByteArray) : same a b = true ↔ a = b := by
  unfold same
  rw [beq_iff_eq]
  constructor
  · intro h
    cases a with | mk x => cases b with | mk y =>
    congr 1
    exact Array.toList_inj.1 h
  · rintro rfl; rfl
theorem same_eq (a b : ByteArray) (c : Bool) (h : c = true ↔ a = b) : same a b = c := by
  rw [Bool.eq_iff_iff, same_iff, h]

theorem same_true {a b : ByteArray} (h1 : a.size ≤ b.size) (h2 : b.size ≤ a.size) (k : Nat) (hk : a.size ≤ k) (h : a.data.toList.take k = b.data.toList.take k) : same a b = true := by
  have e1 : a.data.toList.take k = a.data.toList := List.take_of_length_le (by rw [len_toList]; omega)
  have e2 : b.data.toList.take k = b.data.toList := List.take_of_length_le (by rw [len_toList]; omega)
  rw [e1, e2] at h
  unfold same; rw [h]; simp
theorem same_len {a b : ByteArray} (hl : a.size ≠ b.size) : same a b = false := by
  unfold same
  rw [beq_eq_false_iff_ne]
  intro h
  apply hl
  have := congrArg List.length h
  rwa [len_toList, len_toList] at this
theorem at_toList (s : ByteArray) (k : Nat) (h : k < s.size) : s.data.toList[k]? = some s[k] := by
  rw [List.getElem?_eq_getElem (by rw [len_toList]; exact h)]; rfl
theorem same_at {a b : ByteArray} {k : Nat} (ha : k < a.size) (hb : k < b.size) (h : a[k] ≠ b[k]) : same a b = false := by
  unfold same
  rw [beq_eq_false_iff_ne]
  intro e
  apply h
  have e1 : a.data.toList[k]? = b.data.toList[k]? := by rw [e]
  rw [at_toList a k ha, at_toList b k hb] at e1
  exact Option.some.inj e1

/-- The fixed pieces of the two statements. -/
def L1 : ByteArray := ⟨#[83, 69, 76, 69, 67, 84, 32, 99, 111, 109, 112, 97, 110, 121, 95, 105, 100, 44, 32, 112, 103, 95, 116, 114, 121, 95, 97, 100, 118, 105, 115, 111, 114, 121, 95, 120, 97, 99, 116, 95, 108, 111, 99, 107, 40, 104, 97, 115, 104, 116, 101, 120, 116, 101, 120, 116, 101, 110, 100, 101, 100, 40, 99, 111, 109, 112, 97, 110, 121, 95, 105, 100, 32, 124, 124, 32, 39, 58, 39, 32, 124, 124, 32, 36, 50, 44, 32, 48, 41, 41, 32, 70, 82, 79, 77, 32, 40]⟩
def L2 : ByteArray := ⟨#[41, 32, 99, 32, 40, 99, 111, 109, 112, 97, 110, 121, 95, 105, 100, 41]⟩
def R1 : ByteArray := ⟨#[83, 69, 76, 69, 67, 84, 32, 114, 101, 113, 117, 101, 115, 116, 32, 61, 32]⟩
def R2 : ByteArray := ⟨#[44, 32, 97, 110, 115, 119, 101, 114, 44, 32, 114, 101, 102, 117, 115, 97, 108, 32, 70, 82, 79, 77, 32, 105, 100, 101, 109, 112, 111, 116, 101, 110, 99, 121, 95, 107, 101, 121, 115, 10, 9, 9, 9, 87, 72, 69, 82, 69, 32, 99, 111, 109, 112, 97, 110, 121, 95, 105, 100, 32, 61, 32, 40]⟩
def R3 : ByteArray := ⟨#[41, 32, 65, 78, 68, 32, 105, 100, 101, 109, 112, 111, 116, 101, 110, 99, 121, 95, 107, 101, 121, 32, 61, 32, 36, 50]⟩
/-- The lock for a company query. -/
def lockOf (c : ByteArray) : ByteArray := L1 ++ c ++ L2
/-- The read for a company query and a request. -/
def readOf (c r : ByteArray) : ByteArray := R1 ++ r ++ R2 ++ c ++ R3
theorem lockOf_size (c : ByteArray) : (lockOf c).size = c.size + 113 := by
  unfold lockOf; rw [ByteArray.size_append, ByteArray.size_append]; have h1 : L1.size = 97 := (by decide +kernel); have h2 : L2.size = 16 := (by decide +kernel)
  omega
theorem readOf_size (c r : ByteArray) : (readOf c r).size = c.size + r.size + 106 := by
  unfold readOf; rw [ByteArray.size_append, ByteArray.size_append, ByteArray.size_append, ByteArray.size_append]; have h1 : R1.size = 17 := (by decide +kernel); have h2 : R2.size = 63 := (by decide +kernel); have h3 : R3.size = 26 := (by decide +kernel)
  omega
theorem app_left {a b c : ByteArray} (h : a ++ b = a ++ c) : b = c := by
  have := congrArg (fun x : ByteArray => x.data.toList) h
  simp only [ByteArray.data_append, Array.toList_append] at this
  have e := List.append_cancel_left this
  cases b with | mk x => cases c with | mk y =>
  congr 1
  exact Array.toList_inj.1 e
theorem app_right {a b c : ByteArray} (h : b ++ a = c ++ a) : b = c := by
  have := congrArg (fun x : ByteArray => x.data.toList) h
  simp only [ByteArray.data_append, Array.toList_append] at this
  have e := List.append_cancel_right this
  cases b with | mk x => cases c with | mk y =>
  congr 1
  exact Array.toList_inj.1 e
theorem lockOf_inj {a b : ByteArray} (h : lockOf a = lockOf b) : a = b := app_left (app_right h)
theorem readOf_inj {c a b : ByteArray} (h : readOf c a = readOf c b) : a = b := app_left (app_right (app_right (app_right h)))
/-- THE LAW: the two statements are the same just where the two arguments are. -/
theorem apart (c1 r1 c2 r2 : ByteArray) : (same (lockOf c1) (lockOf c2) && same (readOf c1 r1) (readOf c2 r2)) = (same c1 c2 && same r1 r2) := by
  rw [Bool.eq_iff_iff]
  simp only [Bool.and_eq_true, same_iff]
  constructor
  · rintro ⟨h1, h2⟩
    obtain rfl := lockOf_inj h1
    exact ⟨rfl, readOf_inj h2⟩
  · rintro ⟨rfl, rfl⟩; exact ⟨rfl, rfl⟩
theorem same_lock (a b : ByteArray) : same (lockOf a) (lockOf b) = same a b :=
  same_eq _ _ _ ((same_iff a b).trans ⟨fun h => by rw [h], lockOf_inj⟩)
theorem same_read {c d : ByteArray} (h : same c d = true) (a b : ByteArray) : same (readOf c a) (readOf d b) = same a b := by
  obtain rfl := (same_iff c d).1 h
  exact same_eq _ _ _ ((same_iff a b).trans ⟨fun h => by rw [h], readOf_inj⟩)
end Go.Proofs.Qxb6601259a
