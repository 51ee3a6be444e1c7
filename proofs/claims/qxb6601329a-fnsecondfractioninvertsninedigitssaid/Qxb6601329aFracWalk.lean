/-
  'secondFraction': its contracts.
-/
import Derived.Test.Qxb6601329aRows
import Derived.Test.Qxb6601329aFracPlain
import Derived.WalkKit
import Derived.WalkSpells
import Derived.Below
import Derived.WalkSmall
import Derived.Outline
import Derived.Deep.QuietTactic
import Derived.BigQuiet
import Derived.Lib.Strings
namespace Go.Proofs.Qxb6601329a
open Go.RowKit
theorem ret_bool {x y : Bool} (h : x = y) : Ending.returned (.bool x) = .returned (.bool y) := by rw [h]

theorem ret_pair {a a' : Int} {b b' : ByteArray} (h : a = a') (h' : b = b') : Ending.returned (.tuple #[.int .i64 a, .string b]) = .returned (.tuple #[.int .i64 a', .string b']) := by rw [h, h']

/-- Does the text open with a point? -/
def dot (s : ByteArray) : Bool := s.data.toList.head? == some 46

theorem dot_cut (s : ByteArray) : ((s.extract 0 1).toList == [46]) = dot s := by
  rw [ByteArray.toList_eq, Lib.extract_data]
  unfold dot
  cases s.data.toList with
  | nil => rfl
  | cons x r => simp
theorem dot_empty {s : ByteArray} (h : ¬ 1 ≤ s.size) : dot s = false := by
  unfold dot
  have e : s.data.toList = [] := List.eq_nil_of_length_eq_zero (by rw [len_toList]; omega)
  rw [e]; rfl
theorem dot_at {s : ByteArray} (h : 0 < s.size) : dot s = decide (s[0] = 46) := by
  unfold dot
  rw [List.head?_eq_getElem?, at_toList s 0 h]
  rw [Bool.eq_iff_iff]; simp

set_option maxHeartbeats 400000 in
theorem hasPrefix_dot (s : ByteArray) (w : World) (hs : s.size ≤ 2097152) :
    Calls Try.prog 29 #[.string s, .string ⟨#[46]⟩] w fun e w' => e = .returned (.bool (dot s)) ∧ w' = w := by
  by_cases h : 1 ≤ s.size
  · go_enter Try.func29, Try.ntmps29
    go_wp2
    go_ret
    exact ⟨ret_bool (dot_cut s), rfl⟩
  · go_enter Try.func29, Try.ntmps29
    go_wp2
    go_ret
    exact ⟨ret_bool (dot_empty h).symm, rfl⟩

set_option maxHeartbeats 400000 in
/-- No point: 0 and the text itself. -/
theorem frac_none (s : ByteArray) (w : World) (hs : s.size ≤ 2097152) (hd : dot s = false) :
    Calls Try.prog 27 #[.string s] w fun e w' => e = .returned (.tuple #[.int .i64 0, .string s]) ∧ ∃ n, w' = w.drewN n := by
  have hp := hasPrefix_dot s w hs
  rw [hd] at hp
  clear hd
  go_enter Try.func27, Try.ntmps27
  go_wp2_with fail
  refine hp.mono ?_
  rintro e w' ⟨rfl, rfl⟩
  go_wp2
  go_ret2
  exact ⟨rfl, 0, rfl⟩

set_option maxHeartbeats 1000000 in
/-- A point and no digit. -/
theorem frac_zero (s : ByteArray) (F : Frac s 0) (w : World) (hs : s.size ≤ 2097152) (hd : dot s = true) :
    Calls Try.prog 27 #[.string s] w fun e w' => e = .returned (.tuple #[.int .i64 0, .string s]) ∧ ∃ n, w' = w.drewN n := by
  have hp := hasPrefix_dot s w hs
  rw [hd] at hp
  clear hd
  have hpos := F.pos
  have HS : Hid (∀ h : 1 < s.size, ¬ (48 ≤ (s[1].toNat : Int) ∧ (s[1].toNat : Int) ≤ 57)) := fun h => F.stop 1 h rfl
  go_enter Try.func27, Try.ntmps27
  go_wp2_with fail
  refine hp.mono ?_
  rintro e w' ⟨rfl, rfl⟩
  clear hp
  go_wp2
  refine wp_loop_rounds 1 ?_; rw [rounds_succ]
  go_wp2
  · exact absurd ⟨by assumption, by assumption⟩ (HS.out (by omega))
  all_goals (go_ret2; exact ⟨rfl, 0, rfl⟩)

set_option maxHeartbeats 1000000 in
/-- A point and k digits, one at least. -/
theorem frac_some (s : ByteArray) (k : Nat) (F : Frac s k) (hk : 1 ≤ k) (w : World) (hs : s.size ≤ 2097152) (hd : dot s = true) :
    Calls Try.prog 27 #[.string s] w fun e w' => e = .returned (.tuple #[.int .i64 (horner (digAt s k) 9), .string (s.extract (1 + k) s.size)]) ∧ ∃ n, w' = w.drewN n := by
  have hp := hasPrefix_dot s w hs
  rw [hd] at hp
  clear hd
  have hpos := F.pos
  go_enter Try.func27, Try.ntmps27
  go_wp2_with fail
  refine hp.mono ?_
  rintro e w' ⟨rfl, rfl⟩
  clear hp
  go_wp2
  go_loop [4] (fun t => ∃ m : Nat, 1 ≤ m ∧ m ≤ k + 1 ∧ t = .int .i64 m) (fun t => k + 1 - (intOf t).toNat)
  case atStart => exact ⟨1, by omega, by omega, rfl⟩
  case round =>
    obtain ⟨m, hm1, hm2, rfl⟩ := hrel
    by_cases hlt : m ≤ k
    · have hm : m < s.size := by omega
      have hi : (m : Int) < (s.size : Int) := by omega
      have hdg := F.dig m hm hm1 hlt
      obtain ⟨hdg1, hdg2⟩ := hdg
      go_wp2
      go_round
      case rel => exact ⟨m + 1, by omega, by omega, by go_num⟩
      case measure => simp [intOf]; omega
    · have hmk : m = k + 1 := by omega
      have HM : Hid (m = k + 1) := hmk
      have hb1 : 2 ≤ m := by omega
      have hb2 : m ≤ s.size := by omega
      have hx : ((m : Int) == 1) = false := beq_eq_false_iff_ne.2 (by omega)
      clear hmk hpos hlt hm1 hm2
      rcases F.ends HM.out with ⟨hsz, hc, hc2⟩ | ⟨hsz, hc⟩ | hsz
      all_goals
        go_wp2
        obtain ⟨ds, hds⟩ : ∃ ds, ds = s.extract 1 m := ⟨_, rfl⟩
        obtain ⟨hz, hX⟩ := F.cut HM.out hds
        have HX : Hid (∀ i (h : i < ds.size), (ds[i].toNat : Int) = digAt s k i + 48) := hX
        rw [← hds]
        clear hds hX
        try clear hc
        go_loop [2, 35] (fun nn i => ∃ j : Nat, j ≤ 9 ∧ i = .int .i64 j ∧ nn = .int .i64 (horner (digAt s k) j)) (fun _ i => 9 - (intOf i).toNat)
        case atStart => exact ⟨0, by omega, rfl, rfl⟩
        case round =>
          obtain ⟨j, hj, rfl, rfl⟩ := hrel
          obtain ⟨hH1, hH2⟩ := F.horner_le j hj
          obtain ⟨hd1, hd2⟩ := F.bd j
          by_cases hlt : j < 9
          · have HH : Hid (horner (digAt s k) (j + 1) = horner (digAt s k) j * 10 + digAt s k j) := rfl
            by_cases hjk : j < k
            · have hj2 : j < ds.size := by omega
              have hxj := HX.out j hj2
              have hi : (j : Int) < (k : Int) := by omega
              go_wp2
              go_round
              case rel => exact ⟨j + 1, by omega, by go_num, by rw [HH.out]; first | done | go_num⟩
              case measure => simp [intOf]; omega
            · have hxj : digAt s k j = 0 := digAt_out hjk
              have HZ : Hid (digAt s k j = 0) := hxj
              clear hxj
              go_wp2
              go_round
              case rel => exact ⟨j + 1, by omega, by go_num, by rw [HH.out, HZ.out, Int.add_zero]⟩
              case measure => simp [intOf]; omega
          · obtain rfl : j = 9 := by omega
            go_wp2
            go_quiet (fail)
            go_wp2
            go_ret2
            exact ⟨ret_pair rfl (by rw [HM.out, Nat.add_comm]), _, rfl⟩

set_option maxHeartbeats 400000 in
/-- 'ZZsecondFraction' hands on what 'secondFraction' answers. -/
theorem zzFrac (s : ByteArray) (a : Int) (b : ByteArray) (h : ∀ w, Calls Try.prog 27 #[.string s] w fun e w' => e = .returned (.tuple #[.int .i64 a, .string b]) ∧ ∃ n, w' = w.drewN n) (w : World) :
    Calls Try.prog 15 #[.string s] w fun e w' => e = .returned (.tuple #[.int .i64 a, .string b]) ∧ ∃ n, w' = w.drewN n := by
  have HC := h w
  have HH : Hid (Calls Try.prog 27 #[.string s] w fun e w' => e = .returned (.tuple #[.int .i64 a, .string b]) ∧ ∃ n, w' = w.drewN n) := HC
  clear h HC
  go_enter Try.func15, Try.ntmps15
  go_wp2_with fail
  refine HH.out.mono ?_
  rintro e w1 ⟨rfl, n, rfl⟩
  go_wp2
  go_ret2
  exact ⟨rfl, n, rfl⟩
end Go.Proofs.Qxb6601329a
