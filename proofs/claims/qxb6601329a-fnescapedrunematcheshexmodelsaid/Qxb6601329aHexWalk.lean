/-
  'zzHexValue', 'escapedRune', 'zzEscapedRuneModel': their contracts.
-/
import Derived.Test.Qxb6601329aRows
import Derived.Test.Qxb6601329aHexPlain
import Derived.WalkKit
import Derived.WalkSpells
import Derived.Below
import Derived.WalkSmall
import Derived.Outline
import Derived.Deep.QuietTactic
import Derived.BigQuiet
namespace Go.Proofs.Qxb6601329a
open Go.RowKit

theorem ofInt_i32 (a : Nat) (ha : a < 4294967296) : (BitVec.ofInt 32 (a : Int)).toNat = a := by
  rw [BitVec.ofInt_natCast, BitVec.toNat_ofNat]; exact Nat.mod_eq_of_lt (by omega)
theorem i32_or16 (x y : Int) (h1 : 0 ≤ x) (h2 : x ≤ 4095) (h3 : 0 ≤ y) (h4 : y ≤ 15) : bits .or .i32 (x * 16) y = x * 16 + y := by
  obtain ⟨a, rfl⟩ := Int.eq_ofNat_of_zero_le h1
  obtain ⟨b, rfl⟩ := Int.eq_ofNat_of_zero_le h3
  have e : ((a : Int) * 16) = ((a * 16 : Nat) : Int) := by omega
  have ho := or_add a b (by omega)
  rw [e]
  show IntKind.i32.wrap ((BitVec.ofInt 32 ((a * 16 : Nat) : Int) ||| BitVec.ofInt 32 (b : Int)).toNat : Int) = _
  rw [BitVec.toNat_or, ofInt_i32 (a * 16) (by omega), ofInt_i32 b (by omega), ho, IntKind.wrap_i32]
  omega

def lowS : ByteArray := ⟨#[48, 49, 50, 51, 52, 53, 54, 55, 56, 57, 97, 98, 99, 100, 101, 102]⟩
def upS : ByteArray := ⟨#[48, 49, 50, 51, 52, 53, 54, 55, 56, 57, 65, 66, 67, 68, 69, 70]⟩
theorem low_at : ∀ j : Fin 16, ((lowS[j.val]'(j.isLt)).toNat : Int) = lowAt j.val := by decide +kernel
theorem up_at : ∀ j : Fin 16, ((upS[j.val]'(j.isLt)).toNat : Int) = upAt j.val := by decide +kernel
theorem ret_hex {a a' : Int} {b b' : Bool} (h : a = a') (h' : b = b') : Ending.returned (.tuple #[.int .i32 a, .bool b]) = .returned (.tuple #[.int .i32 a', .bool b']) := by rw [h, h']

set_option maxHeartbeats 400000 in
theorem hex_any (c : Int) (w : World) :
    Calls Try.prog 26 #[.int .u8 c] w fun e w' => e = .returned (.tuple #[.int .i32 (hx c), .bool (hok c)]) ∧ w' = w := by
  go_enter Try.func26, Try.ntmps26
  go_wp2
  go_loop [4] (fun t => ∃ j : Nat, j ≤ 16 ∧ t = .int .i64 j ∧ Hid (∀ i : Nat, i < j → lowAt i ≠ c ∧ upAt i ≠ c)) (fun t => 16 - (intOf t).toNat)
  case atStart => exact ⟨0, by omega, rfl, fun i h => absurd h (by omega)⟩
  case round =>
    obtain ⟨j, hj, rfl, HM⟩ := hrel
    by_cases hlt : j < 16
    · have e1 := low_at ⟨j, hlt⟩
      have e2 := up_at ⟨j, hlt⟩
      unfold lowS at e1
      unfold upS at e2
      simp only at e1 e2
      have hi : (j : Int) < 16 := by omega
      go_wp2
      · have h : lowAt (j : Int) = c := by assumption
        obtain ⟨h1, h2⟩ := hit (by omega) hi (.inl h)
        go_ret2
        exact ⟨ret_hex h2.symm h1.symm, rfl⟩
      · have h : (lowAt (j : Int) == c) = true ∨ (upAt (j : Int) == c) = true := by assumption
        simp only [beq_iff_eq] at h
        obtain ⟨h1, h2⟩ := hit (by omega) hi h
        go_ret2
        exact ⟨ret_hex h2.symm h1.symm, rfl⟩
      · have h : (lowAt (j : Int) == c) = false ∧ (upAt (j : Int) == c) = false := by assumption
        simp only [beq_eq_false_iff_ne] at h
        refine ⟨⟨j + 1, by omega, by go_num, fun i hi => ?_⟩, by simp [intOf]; omega⟩
        by_cases e : i = j
        · subst e; exact h
        · exact HM.out i (by omega)
    · go_wp2
      go_ret2
      have hm := miss (c := c) (fun i hi => HM.out i (by omega))
      exact ⟨ret_hex (hx_no hm).symm hm.symm, rfl⟩

set_option maxHeartbeats 400000 in
/-- Fewer than six bytes (a nil slice too). -/
theorem esc_short (a : Option Addr) (n c : Nat) (hn : n < 6) (w : World) :
    Calls Try.prog 25 #[.slice a n c] w fun e w' => e = .returned (.tuple #[.int .i32 0, .bool false]) ∧ w' = w := by
  have hi : (n : Int) < 6 := by omega
  go_enter Try.func25, Try.ntmps25
  go_wp2
  go_ret2
  exact ⟨rfl, rfl⟩
set_option maxHeartbeats 400000 in
theorem model_short (a : Option Addr) (n c : Nat) (hn : n < 6) (w : World) :
    Calls Try.prog 11 #[.slice a n c] w fun e w' => e = .returned (.tuple #[.int .i32 0, .bool false]) ∧ w' = w := by
  have hi : (n : Int) < 6 := by omega
  go_enter Try.func11, Try.ntmps11
  go_wp2
  go_ret2
  exact ⟨rfl, rfl⟩

/-- Six bytes or more: what the walks are told. -/
structure Six (w : World) (b : Nat) (d : Nat → Int) : Prop where
  cell : ∀ i, i < 6 → w.cell? ⟨b, i, none⟩ = some (.int .u8 (d i))
  bd : ∀ i, 0 ≤ d i ∧ d i ≤ 255

theorem out_no0 {d : Nat → Int} (h : d 0 ≠ 92) : escOut d = (0, false) := by unfold escOut; rw [if_neg (fun x => h x.1)]
theorem out_no1 {d : Nat → Int} (h : d 1 ≠ 117) : escOut d = (0, false) := by unfold escOut; rw [if_neg (fun x => h x.2.1)]
theorem out_no2 {d : Nat → Int} (j : Nat) (hj : j < 4) (h : hok (d (2 + j)) = false) : escOut d = (0, false) := by
  unfold escOut
  rw [if_neg]
  rintro ⟨_, _, h2, h3, h4, h5⟩
  have : hok (d (2 + j)) = true := by
    rcases (by omega : j = 0 ∨ j = 1 ∨ j = 2 ∨ j = 3) with rfl | rfl | rfl | rfl
    · exact h2
    · exact h3
    · exact h4
    · exact h5
  rw [h] at this; cases this
theorem out_yes {d : Nat → Int} (h0 : d 0 = 92) (h1 : d 1 = 117) (h : ∀ j, j < 4 → hok (d (2 + j)) = true) : escOut d = (acc d 4, true) := by
  unfold escOut
  rw [if_pos ⟨h0, h1, h 0 (by omega), h 1 (by omega), h 2 (by omega), h 3 (by omega)⟩]
theorem ret_out {d : Nat → Int} {a : Int} {b : Bool} (h : escOut d = (a, b)) : Ending.returned (.tuple #[.int .i32 a, .bool b]) = .returned (.tuple #[.int .i32 (escOut d).1, .bool (escOut d).2]) := by rw [h]

theorem kept {d : Nat → Int} {j : Nat} (h : ∀ i, i < j → hok (d (2 + i)) = true) (hj : hok (d (2 + j)) = true) : ∀ i, i < j + 1 → hok (d (2 + i)) = true := by
  intro i hi
  by_cases e : i = j
  · subst e; exact hj
  · exact h i (by omega)

set_option maxHeartbeats 1000000 in
theorem esc_long (b n c : Nat) (hn : 6 ≤ n) (hnc : n ≤ c) (d : Nat → Int) (w : World) (S : Six w b d) :
    Calls Try.prog 25 #[.slice (some ⟨b, 0, none⟩) n c] w fun e w' => e = .returned (.tuple #[.int .i32 (escOut d).1, .bool (escOut d).2]) ∧ w' = w := by
  have hi : ¬ (n : Int) < 6 := by omega
  have k0 := S.cell 0 (by omega)
  have k1 := S.cell 1 (by omega)
  by_cases h0 : d 0 = 92
  · by_cases h1 : d 1 = 117
    · have q0 : (d 0 != 92) = false := by rw [h0]; rfl
      have q1 : (d 1 != 117) = false := by rw [h1]; rfl
      have H0 : Hid (d 0 = 92) := h0
      have H1 : Hid (d 1 = 117) := h1
      clear h0 h1
      go_enter Try.func25, Try.ntmps25
      go_wp2
      clear k0 k1
      go_loop [4, 25] (fun r t => ∃ j : Nat, j ≤ 4 ∧ t = .int .i64 j ∧ r = .int .i32 (acc d j) ∧ Hid (∀ i, i < j → hok (d (2 + i)) = true)) (fun _ t => 4 - (intOf t).toNat)
      case atStart => exact ⟨0, by omega, rfl, rfl, fun i h => absurd h (by omega)⟩
      case round =>
        obtain ⟨j, hj, rfl, rfl, HK⟩ := hrel
        by_cases hlt : j < 4
        · have kj := S.cell (2 + j) (by omega)
          obtain ⟨b1, b2⟩ := S.bd (2 + j)
          obtain ⟨c1, c2⟩ := acc_le d j (by omega)
          by_cases hd : 48 ≤ d (2 + j) ∧ d (2 + j) ≤ 57
          · have hv := hx_dec hd
            have HV : Hid (hok (d (2 + j)) = true ∧ acc d (j + 1) = acc d j * 16 + (d (2 + j) - 48)) := ⟨(hok_iff _).2 (.inl hd), by rw [acc, hv]⟩
            clear hv
            obtain ⟨g1, g2⟩ := hd
            go_wp2
            exact ⟨⟨j + 1, by omega, by go_num, by rw [i32_or16 _ _ c1 c2 (by omega) (by omega), HV.out.2], kept HK.out HV.out.1⟩, by simp [intOf]; omega⟩
          · by_cases hl : 97 ≤ d (2 + j) ∧ d (2 + j) ≤ 102
            · have hv := hx_low hl
              have HV : Hid (hok (d (2 + j)) = true ∧ acc d (j + 1) = acc d j * 16 + (d (2 + j) - 87)) := ⟨(hok_iff _).2 (.inr (.inl hl)), by rw [acc, hv]⟩
              clear hv hd
              obtain ⟨g1, g2⟩ := hl
              go_wp2
              exact ⟨⟨j + 1, by omega, by go_num, by rw [i32_or16 _ _ c1 c2 (by omega) (by omega), HV.out.2], kept HK.out HV.out.1⟩, by simp [intOf]; omega⟩
            · by_cases hu : 65 ≤ d (2 + j) ∧ d (2 + j) ≤ 70
              · have hv := hx_up hu
                have HV : Hid (hok (d (2 + j)) = true ∧ acc d (j + 1) = acc d j * 16 + (d (2 + j) - 55)) := ⟨(hok_iff _).2 (.inr (.inr hu)), by rw [acc, hv]⟩
                clear hv hd hl
                obtain ⟨g1, g2⟩ := hu
                go_wp2
                exact ⟨⟨j + 1, by omega, by go_num, by rw [i32_or16 _ _ c1 c2 (by omega) (by omega), HV.out.2], kept HK.out HV.out.1⟩, by simp [intOf]; omega⟩
              · have HN : Hid (hok (d (2 + j)) = false) := hok_no hd hl hu
                have n1 : d (2 + j) < 48 ∨ 57 < d (2 + j) := by omega
                have n2 : d (2 + j) < 97 ∨ 102 < d (2 + j) := by omega
                have n3 : d (2 + j) < 65 ∨ 70 < d (2 + j) := by omega
                clear hd hl hu
                rcases n1 with n1 | n1 <;> rcases n2 with n2 | n2 <;> rcases n3 with n3 | n3
                all_goals first
                  | (exfalso; omega)
                  | (go_wp2
                     go_ret2
                     exact ⟨ret_out (out_no2 j hlt HN.out), rfl⟩)
        · obtain rfl : j = 4 := by omega
          go_wp2
          go_ret2
          exact ⟨ret_out (out_yes H0.out H1.out (fun j hj => HK.out j hj)), rfl⟩
    · have q0 : (d 0 != 92) = false := by rw [h0]; rfl
      have q1 : (d 1 != 117) = true := by rw [bne_iff_ne]; exact h1
      have H1 : Hid (d 1 ≠ 117) := h1
      clear h0 h1
      go_enter Try.func25, Try.ntmps25
      go_wp2
      go_ret2
      exact ⟨ret_out (out_no1 H1.out), rfl⟩
  · have q0 : (d 0 != 92) = true := by rw [bne_iff_ne]; exact h0
    have H0 : Hid (d 0 ≠ 92) := h0
    clear h0
    go_enter Try.func25, Try.ntmps25
    go_wp2
    go_ret2
    exact ⟨ret_out (out_no0 H0.out), rfl⟩

set_option maxHeartbeats 1000000 in
theorem model_long (b n c : Nat) (hn : 6 ≤ n) (_hnc : n ≤ c) (d : Nat → Int) (w : World) (S : Six w b d) :
    Calls Try.prog 11 #[.slice (some ⟨b, 0, none⟩) n c] w fun e w' => e = .returned (.tuple #[.int .i32 (escOut d).1, .bool (escOut d).2]) ∧ w' = w := by
  have hi : ¬ (n : Int) < 6 := by omega
  have k0 := S.cell 0 (by omega)
  have k1 := S.cell 1 (by omega)
  by_cases h0 : d 0 = 92
  · by_cases h1 : d 1 = 117
    · have q0 : (d 0 != 92) = false := by rw [h0]; rfl
      have q1 : (d 1 != 117) = false := by rw [h1]; rfl
      have H0 : Hid (d 0 = 92) := h0
      have H1 : Hid (d 1 = 117) := h1
      clear h0 h1
      have k2 := S.cell 2 (by omega)
      have k3 := S.cell 3 (by omega)
      have k4 := S.cell 4 (by omega)
      have k5 := S.cell 5 (by omega)
      obtain ⟨a2, b2⟩ := hx_bd (d 2)
      obtain ⟨a3, b3⟩ := hx_bd (d 3)
      obtain ⟨a4, b4⟩ := hx_bd (d 4)
      obtain ⟨a5, b5⟩ := hx_bd (d 5)
      have HA : Hid (acc d 4 = hx (d 2) * 4096 + hx (d 3) * 256 + hx (d 4) * 16 + hx (d 5)) := acc4 d
      cases h2 : hok (d 2)
      · have HF : Hid (hok (d (2 + 0)) = false) := h2
        go_enter Try.func11, Try.ntmps11
        go_wp2_with (go_at_call 26; refine (hex_any _ _).mono ?_; rintro e u ⟨rfl, rfl⟩)
        go_ret2
        exact ⟨ret_out (out_no2 0 (by omega) HF.out), rfl⟩
      · cases h3 : hok (d 3)
        · have HF : Hid (hok (d (2 + 1)) = false) := h3
          go_enter Try.func11, Try.ntmps11
          go_wp2_with (go_at_call 26; refine (hex_any _ _).mono ?_; rintro e u ⟨rfl, rfl⟩)
          go_ret2
          exact ⟨ret_out (out_no2 1 (by omega) HF.out), rfl⟩
        · cases h4 : hok (d 4)
          · have HF : Hid (hok (d (2 + 2)) = false) := h4
            go_enter Try.func11, Try.ntmps11
            go_wp2_with (go_at_call 26; refine (hex_any _ _).mono ?_; rintro e u ⟨rfl, rfl⟩)
            go_ret2
            exact ⟨ret_out (out_no2 2 (by omega) HF.out), rfl⟩
          · cases h5 : hok (d 5)
            · have HF : Hid (hok (d (2 + 3)) = false) := h5
              go_enter Try.func11, Try.ntmps11
              go_wp2_with (go_at_call 26; refine (hex_any _ _).mono ?_; rintro e u ⟨rfl, rfl⟩)
              go_ret2
              exact ⟨ret_out (out_no2 3 (by omega) HF.out), rfl⟩
            · have HY : Hid (∀ j, j < 4 → hok (d (2 + j)) = true) := by
                intro j hj
                rcases (by omega : j = 0 ∨ j = 1 ∨ j = 2 ∨ j = 3) with rfl | rfl | rfl | rfl
                · exact h2
                · exact h3
                · exact h4
                · exact h5
              go_enter Try.func11, Try.ntmps11
              go_wp2_with (go_at_call 26; refine (hex_any _ _).mono ?_; rintro e u ⟨rfl, rfl⟩)
              go_ret2
              exact ⟨ret_out (by rw [out_yes H0.out H1.out HY.out, HA.out]), rfl⟩
    · have q0 : (d 0 != 92) = false := by rw [h0]; rfl
      have q1 : (d 1 != 117) = true := by rw [bne_iff_ne]; exact h1
      have H1 : Hid (d 1 ≠ 117) := h1
      clear h0 h1
      go_enter Try.func11, Try.ntmps11
      go_wp2
      go_ret2
      exact ⟨ret_out (out_no1 H1.out), rfl⟩
  · have q0 : (d 0 != 92) = true := by rw [bne_iff_ne]; exact h0
    have H0 : Hid (d 0 ≠ 92) := h0
    clear h0
    go_enter Try.func11, Try.ntmps11
    go_wp2
    go_ret2
    exact ⟨ret_out (out_no0 H0.out), rfl⟩

set_option maxHeartbeats 400000 in
/-- 'ZZescapedRune' hands on what 'escapedRune' answers. -/
theorem zzEsc (v : Value) (a : Int) (b : Bool) (w : World) (h : Calls Try.prog 25 #[v] w fun e w' => e = .returned (.tuple #[.int .i32 a, .bool b]) ∧ w' = w) :
    Calls Try.prog 10 #[v] w fun e w' => e = .returned (.tuple #[.int .i32 a, .bool b]) ∧ w' = w := by
  have HH : Hid (Calls Try.prog 25 #[v] w fun e w' => e = .returned (.tuple #[.int .i32 a, .bool b]) ∧ w' = w) := h
  clear h
  go_enter Try.func10, Try.ntmps10
  go_wp2_with fail
  refine HH.out.mono ?_
  rintro e w1 ⟨rfl, rfl⟩
  go_wp2
  go_ret2
  exact ⟨rfl, rfl⟩

set_option maxHeartbeats 400000 in
theorem zz9 (a : Option Addr) (n c : Nat) (w : World) (hn : n ≤ maxLen) :
    Calls Try.prog 9 #[.slice a n c] w fun e w' => ∃ x, e = .returned (.bool x) ∧ w' = w := by
  unfold maxLen at hn
  go_enter Try.func9, Try.ntmps9
  go_wp2
  all_goals (go_ret; exact ⟨_, rfl, rfl⟩)

/-- The two answers are one, at whatever slice of bytes of the call's own. -/
theorem both_short (a : Option Addr) (n c : Nat) (hn : n < 6) : ∃ x y, (∀ w, Calls Try.prog 10 #[.slice a n c] w fun e w' => e = .returned (.tuple #[.int .i32 x, .bool y]) ∧ w' = w) ∧ (∀ w, Calls Try.prog 11 #[.slice a n c] w fun e w' => e = .returned (.tuple #[.int .i32 x, .bool y]) ∧ w' = w) :=
  ⟨0, false, fun w => zzEsc _ _ _ w (esc_short a n c hn w), fun w => model_short a n c hn w⟩
end Go.Proofs.Qxb6601329a
