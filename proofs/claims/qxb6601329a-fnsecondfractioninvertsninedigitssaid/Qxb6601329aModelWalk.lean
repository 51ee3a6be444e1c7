/-
  'zzPow10', 'zzIsDigit', 'zzSecondFractionModel': their contracts.
-/
import Derived.Test.Qxb6601329aFracWalk
namespace Go.Proofs.Qxb6601329a
open Go.RowKit

set_option maxHeartbeats 400000 in
theorem pow10_any (x : Int) (h0 : 0 ≤ x) (h8 : x ≤ 8) (w : World) :
    Calls Try.prog 19 #[.int .i64 x] w fun e w' => e = .returned (.int .i64 (p10 x)) ∧ w' = w := by
  have hx : x = 0 ∨ x = 1 ∨ x = 2 ∨ x = 3 ∨ x = 4 ∨ x = 5 ∨ x = 6 ∨ x = 7 ∨ x = 8 := by omega
  rcases hx with rfl | rfl | rfl | rfl | rfl | rfl | rfl | rfl | rfl
  all_goals (go_enter Try.func19, Try.ntmps19; go_wp2; go_ret; exact ⟨rfl, rfl⟩)

/-- The model, where there is no point. -/
theorem model_none (s : ByteArray) (w : World) (hs : s.size ≤ 1048576) (hd : dot s = false) :
    Calls Try.prog 16 #[.string s] w fun e w' => e = .returned (.tuple #[.int .i64 0, .string s]) ∧ ∃ n, w' = w.drewN n := by
  by_cases h : 0 < s.size
  · rw [dot_at h] at hd
    have hne : ((s[0].toNat : Int) != 46) = true := by
      rw [bne_iff_ne]; intro e
      have : s[0] = 46 := UInt8.toNat_inj.1 (by show s[0].toNat = 46; omega)
      simp [this] at hd
    have hz : ((s.size : Int) == 0) = false := beq_eq_false_iff_ne.2 (by omega)
    clear hd
    go_enter Try.func16, Try.ntmps16
    go_wp2
    go_ret2
    exact ⟨rfl, 0, rfl⟩
  · have hz : ((s.size : Int) == 0) = true := beq_iff_eq.2 (by omega)
    clear hd
    go_enter Try.func16, Try.ntmps16
    go_wp2
    go_ret2
    exact ⟨rfl, 0, rfl⟩

set_option maxHeartbeats 1000000 in
/-- The model, at a point and k digits. -/
theorem model_some (s : ByteArray) (k : Nat) (F : Frac s k) (hk : 1 ≤ k) (w : World) (hs : s.size ≤ 1048576) (hd : dot s = true) :
    Calls Try.prog 16 #[.string s] w fun e w' => e = .returned (.tuple #[.int .i64 (placed (digAt s k) (min k 9)), .string (s.extract (1 + k) s.size)]) ∧ ∃ n, w' = w.drewN n := by
  have hpos := F.pos
  have h0 : 0 < s.size := by omega
  rw [dot_at h0] at hd
  have h46 : ((s[0].toNat : Int) != 46) = false := by simp at hd; rw [hd]; rfl
  have hz : ((s.size : Int) == 0) = false := beq_eq_false_iff_ne.2 (by omega)
  clear hd
  go_enter Try.func16, Try.ntmps16
  go_wp2
  go_loop [4] (fun t => ∃ j : Nat, j ≤ k ∧ t = .int .i64 j) (fun t => k - (intOf t).toNat)
  case atStart => exact ⟨0, by omega, rfl⟩
  case round =>
    obtain ⟨j, hj, rfl⟩ := hrel
    by_cases hlt : j < k
    · have hm : 1 + j < s.size := by omega
      have hi : 1 + (j : Int) < (s.size : Int) := by omega
      obtain ⟨hdg1, hdg2⟩ := F.dig (1 + j) hm (by omega) (by omega)
      go_wp2
      exact ⟨⟨j + 1, by omega, by go_num⟩, by simp [intOf]; omega⟩
    · obtain rfl : j = k := by omega
      have hx : ((j : Int) == 0) = false := beq_eq_false_iff_ne.2 (by omega)
      rcases F.ends (show 1 + j = j + 1 by omega) with ⟨hsz, hc, hc2⟩ | ⟨hsz, hc⟩ | hsz
      all_goals
        go_wp2
        try clear hc
        go_loopw [5, 6] (fun nn t w1 => ∃ i : Nat, i ≤ j ∧ i ≤ 9 ∧ t = .int .i64 i ∧ nn = .int .i64 (placed (digAt s j) i) ∧ Hid (∃ n, w1 = w.drewN n)) (fun _ t _ => 9 - (intOf t).toNat)
        case atStart => exact ⟨0, by omega, by omega, rfl, rfl, 0, rfl⟩
        case round =>
          obtain ⟨i, hi1, hi2, rfl, rfl, HW⟩ := hrel
          obtain ⟨hp1, hp2⟩ := F.placed_le i hi2
          by_cases hlt : i < j ∧ i < 9
          · obtain ⟨hl1, hl2⟩ := hlt
            have hm : 1 + i < s.size := by omega
            have hii : 1 + (i : Int) < (s.size : Int) := by omega
            have hi0 : (0 : Int) ≤ 1 + (i : Int) := by omega
            have hit : (1 + (i : Int)).toNat = 1 + i := by omega
            obtain ⟨hdg1, hdg2⟩ := F.dig (1 + i) hm (by omega) (by omega)
            have HD : Hid (digAt s j i = (s[1 + i].toNat : Int) - 48) := digAt_at hm rfl hl1
            obtain ⟨hq1, hq2⟩ := p10_bd (x := 8 - (i : Int)) (by omega)
            obtain ⟨hr1, hr2⟩ := prod_bd (d := (s[1 + i].toNat : Int) - 48) (p := p10 (8 - (i : Int))) (by omega) (by omega) hq1 hq2
            have hw1 : IntKind.i64.wrap (1 + (i : Int)) = 1 + (i : Int) := by rw [IntKind.wrap_i64]; omega
            have hw2 : IntKind.u8.wrap ((s[1 + i].toNat : Int) - 48) = (s[1 + i].toNat : Int) - 48 := by rw [IntKind.wrap_u8]; omega
            have hw3 : IntKind.i64.wrap (8 - (i : Int)) = 8 - (i : Int) := by rw [IntKind.wrap_i64]; omega
            have hw4 : IntKind.i64.wrap (((s[1 + i].toNat : Int) - 48) * p10 (8 - (i : Int))) = ((s[1 + i].toNat : Int) - 48) * p10 (8 - (i : Int)) := by rw [IntKind.wrap_i64]; omega
            have hw5 : IntKind.i64.wrap (placed (digAt s j) i + ((s[1 + i].toNat : Int) - 48) * p10 (8 - (i : Int))) = placed (digAt s j) i + ((s[1 + i].toNat : Int) - 48) * p10 (8 - (i : Int)) := by rw [IntKind.wrap_i64]; omega
            have hw6 : IntKind.i64.wrap ((s[1 + i].toNat : Int) - 48) = (s[1 + i].toNat : Int) - 48 := by rw [IntKind.wrap_i64]; omega
            have HH : Hid (placed (digAt s j) (i + 1) = placed (digAt s j) i + digAt s j i * p10 (8 - (i : Int))) := placed_succ _ i hl2
            go_wp2
            go_quiet ((go_at_call 19; exact Calls.quiet_of_same (pow10_any _ (by omega) (by omega) _)))
            go_wp2
            obtain ⟨n, hn⟩ := HW.out
            exact ⟨⟨i + 1, by omega, by omega, by go_num, by rw [HH.out, HD.out], n + nq, by rw [hn]; simp⟩, by simp [intOf]; omega⟩
          · have hmin : min j 9 = i := by omega
            have HM : Hid (min j 9 = i) := hmin
            have hw1 : IntKind.i64.wrap (1 + (j : Int)) = 1 + (j : Int) := by rw [IntKind.wrap_i64]; omega
            have hj0 : (0 : Int) ≤ 1 + (j : Int) := by omega
            have hj1 : 1 + (j : Int) ≤ (s.size : Int) := by omega
            have hjt : (1 + (j : Int)).toNat = 1 + j := by omega
            have hjn : 1 + j ≤ s.size := by omega
            by_cases hl1 : i < j
            · have hl9 : ¬ i < 9 := fun h => hlt ⟨hl1, h⟩
              clear hlt hmin
              go_wp2
              go_quiet (fail)
              go_wp2
              go_ret2
              obtain ⟨n, hn⟩ := HW.out
              exact ⟨ret_pair (by rw [HM.out]) rfl, n + nq, by rw [hn]; simp⟩
            · clear hlt hmin
              go_wp2
              go_quiet (fail)
              go_wp2
              go_ret2
              obtain ⟨n, hn⟩ := HW.out
              exact ⟨ret_pair (by rw [HM.out]) rfl, n + nq, by rw [hn]; simp⟩

set_option maxHeartbeats 1000000 in
/-- The model, at a point and no digit. -/
theorem model_zero (s : ByteArray) (F : Frac s 0) (w : World) (hs : s.size ≤ 1048576) (hd : dot s = true) :
    Calls Try.prog 16 #[.string s] w fun e w' => e = .returned (.tuple #[.int .i64 0, .string s]) ∧ ∃ n, w' = w.drewN n := by
  have hpos := F.pos
  have h0 : 0 < s.size := by omega
  rw [dot_at h0] at hd
  have h46 : ((s[0].toNat : Int) != 46) = false := by simp at hd; rw [hd]; rfl
  have hz : ((s.size : Int) == 0) = false := beq_eq_false_iff_ne.2 (by omega)
  clear hd
  have HS : Hid (∀ h : 1 < s.size, ¬ (48 ≤ (s[1].toNat : Int) ∧ (s[1].toNat : Int) ≤ 57)) := fun h => F.stop 1 h rfl
  go_enter Try.func16, Try.ntmps16
  go_wp2
  refine wp_loop_rounds 1 ?_; rw [rounds_succ]
  go_wp2
  · exact absurd ⟨by assumption, by assumption⟩ (HS.out (by omega))
  all_goals (go_ret2; exact ⟨rfl, 0, rfl⟩)
end Go.Proofs.Qxb6601329a
