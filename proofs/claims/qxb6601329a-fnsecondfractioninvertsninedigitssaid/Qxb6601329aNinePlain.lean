/-
  PLAIN LAWS on '.' and n in nine digits, then further digits, then a rest: no Go in sight.
-/
import Derived.Test.Qxb6601329aFracPlain
namespace Go.Proofs.Qxb6601329a

def nineDig (n j : Nat) : Nat := n / 10 ^ (8 - j) % 10
theorem nineDig_lt (n j : Nat) : nineDig n j < 10 := Nat.mod_lt _ (by omega)
def nineByte (n j : Nat) : UInt8 := UInt8.ofNat (48 + nineDig n j)
theorem nineByte_toNat (n j : Nat) : (nineByte n j).toNat = 48 + nineDig n j := by
  have := nineDig_lt n j
  unfold nineByte
  rw [UInt8.toNat_ofNat']
  omega
/-- The point and the first j of the nine digits. -/
def txt (n j : Nat) : List UInt8 := 46 :: (List.range j).map (nineByte n)
theorem txt_length (n j : Nat) : (txt n j).length = j + 1 := by simp [txt]
theorem txt_succ (n j : Nat) : txt n (j + 1) = txt n j ++ [nineByte n j] := by simp [txt, List.range_succ]
theorem txt_at (n j m : Nat) (h1 : 1 ≤ m) (h2 : m ≤ j) : (txt n j)[m]? = some (nineByte n (m - 1)) := by
  obtain ⟨m, rfl⟩ : ∃ i, m = i + 1 := ⟨m - 1, by omega⟩
  show ((List.range j).map (nineByte n))[m]? = _
  rw [List.getElem?_map, List.getElem?_range (by omega)]
  rfl

theorem horner_nine (n : Nat) (hn : n < 1000000000) (d : Nat → Int) (hd : ∀ i, i < 9 → d i = (nineDig n i : Int)) : ∀ i, i ≤ 9 → horner d i = ((n / 10 ^ (9 - i) : Nat) : Int)
  | 0, _ => by simp only [horner]; rw [Nat.div_eq_of_lt (by simpa using hn)]; rfl
  | i + 1, h => by
    rw [horner, horner_nine n hn d hd i (by omega), hd i (by omega)]
    unfold nineDig
    have e1 : 9 - (i + 1) = 8 - i := by omega
    have e2 : 9 - i = (8 - i) + 1 := by omega
    rw [e1, e2, Nat.pow_succ, ← Nat.div_div_eq_div_mul]
    omega

/-- The whole text. -/
def whole (n : Nat) (e r : List UInt8) : List UInt8 := txt n 9 ++ e ++ r
def wholeS (n : Nat) (e r : List UInt8) : ByteArray := ⟨(whole n e r).toArray⟩
theorem wholeS_list (n : Nat) (e r : List UInt8) : (wholeS n e r).data.toList = whole n e r := rfl
theorem wholeS_size (n : Nat) (e r : List UInt8) : (wholeS n e r).size = 10 + e.length + r.length := by
  rw [← len_toList, wholeS_list]; simp [whole, txt_length]; omega
theorem whole_at1 (n : Nat) (e r : List UInt8) (m : Nat) (h1 : 1 ≤ m) (h2 : m ≤ 9) : (whole n e r)[m]? = some (nineByte n (m - 1)) := by
  unfold whole
  rw [List.append_assoc, List.getElem?_append_left (by rw [txt_length]; omega), txt_at n 9 m h1 h2]
theorem whole_at2 (n : Nat) (e r : List UInt8) (m : Nat) (h1 : 10 ≤ m) (h2 : m < 10 + e.length) : (whole n e r)[m]? = e[m - 10]? := by
  unfold whole
  rw [List.append_assoc, List.getElem?_append_right (by rw [txt_length]; omega), txt_length, List.getElem?_append_left (by omega)]
theorem whole_at3 (n : Nat) (e r : List UInt8) (m : Nat) (h1 : 10 + e.length ≤ m) : (whole n e r)[m]? = r[m - 10 - e.length]? := by
  unfold whole
  rw [List.append_assoc, List.getElem?_append_right (by rw [txt_length]; omega), txt_length, List.getElem?_append_right (by omega)]

theorem frac_whole (n : Nat) (e r : List UInt8) (he : ∀ c ∈ e, isDig c = true) (hr : ∀ c, r[0]? = some c → isDig c = false) : Frac (wholeS n e r) (9 + e.length) := by
  refine ⟨by rw [wholeS_size]; omega, fun m hm h1 h2 => ?_, fun m hm em hc => ?_⟩
  · have ha := at_toList (wholeS n e r) m hm
    rw [wholeS_list] at ha
    by_cases h9 : m ≤ 9
    · rw [whole_at1 n e r m h1 h9] at ha
      rw [← Option.some.inj ha, nineByte_toNat]
      have := nineDig_lt n (m - 1)
      omega
    · rw [whole_at2 n e r m (by omega) (by omega)] at ha
      exact (isDig_iff _).1 (he _ (List.mem_of_getElem? ha))
  · have ha := at_toList (wholeS n e r) m hm
    rw [wholeS_list, whole_at3 n e r m (by omega), show m - 10 - e.length = 0 by omega] at ha
    have := hr _ ha
    rw [(isDig_iff _).2 hc] at this
    cases this

theorem dot_whole (n : Nat) (e r : List UInt8) : (wholeS n e r).data.toList.head? = some 46 := by rw [wholeS_list]; rfl

theorem horner_whole (n : Nat) (hn : n < 1000000000) (e r : List UInt8) : horner (digAt (wholeS n e r) (9 + e.length)) 9 = (n : Int) := by
  have h := horner_nine n hn (digAt (wholeS n e r) (9 + e.length)) (fun i hi => by
    unfold digAt
    rw [if_pos (by omega), List.getD_eq_getElem?_getD, wholeS_list, whole_at1 n e r (1 + i) (by omega) (by omega)]
    simp only [Option.getD_some]
    rw [nineByte_toNat, show 1 + i - 1 = i by omega]
    omega) 9 (by omega)
  simpa using h

theorem rest_whole (n : Nat) (e : List UInt8) (r : ByteArray) : (wholeS n e r.data.toList).extract (1 + (9 + e.length)) (wholeS n e r.data.toList).size = r := by
  have h : ((wholeS n e r.data.toList).extract (1 + (9 + e.length)) (wholeS n e r.data.toList).size).data.toList = r.data.toList := by
    rw [ByteArray.data_extract, Array.toList_extract]
    simp only [List.extract_eq_take_drop, wholeS_list]
    rw [List.take_of_length_le (by rw [List.length_drop, ← wholeS_list, len_toList]; omega)]
    unfold whole
    rw [List.drop_append_of_le_length, List.drop_of_length_le, List.nil_append]
    · simp [txt_length]; omega
    · simp [txt_length]; omega
  generalize (wholeS n e r.data.toList).extract (1 + (9 + e.length)) (wholeS n e r.data.toList).size = x at h
  cases x with | mk x => cases r with | mk y =>
  congr 1
  exact Array.toList_inj.1 h
end Go.Proofs.Qxb6601329a
