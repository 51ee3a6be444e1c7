/-
  'pairsBytes' and the bound laid by program: contracts.
-/
import Derived.Test.Qxb6601243aBase
namespace Go.Proofs.Qxb6601243a
open Go.RowKit

set_option maxHeartbeats 400000 in
theorem pairs_none (a : Option Addr) (c : Nat) (w : World) :
    Calls Try.prog 21 #[.slice a 0 c] w fun e w' => ∃ t : Int, e = .returned (.int .i64 t) ∧ 0 ≤ t ∧ t ≤ 1048577 ∧ w' = w := by
  go_enter Try.func21, Try.ntmps21
  go_wp2_with (go_at_call 26; refine (add_any _ _ _ _ (by omega) (by omega) (by omega) (by omega) (by omega)).mono ?_; rintro e u ⟨r, rfl, hr0, hr1, hr2, rfl⟩)
  refine wp_loop_rounds 1 ?_; rw [rounds_succ]
  go_wp2
  go_ret
  exact ⟨_, rfl, by omega, by omega, rfl⟩

set_option maxHeartbeats 1000000 in
theorem pairs_some (b o n c : Nat) (hd : Nat → Nat → Int) (sa : Nat → Nat → Option Addr) (sn sc : Nat → Nat → Nat) (z : Nat → Nat → Nat → Int) (w : World) (hn : n ≤ maxLen) (Z : ZPs w b o n hd sa sn sc z) :
    Calls Try.prog 21 #[.slice (some ⟨b, o, none⟩) n c] w fun e w' => ∃ t : Int, e = .returned (.int .i64 t) ∧ 0 ≤ t ∧ t ≤ 1048577 ∧ (t ≤ 1048576 → n ≤ 1048576 ∧ ∀ p, p < n → ∀ q, q < 5 → sn p q ≤ 1048576) ∧ w' = w := by
  unfold maxLen at hn
  go_enter Try.func21, Try.ntmps21
  go_wp2_with (go_at_call 26; refine (add_any _ _ _ _ (by omega) (by omega) (by omega) (by omega) (by omega)).mono ?_; rintro e u ⟨r, rfl, hr0, hr1, hr2, rfl⟩)
  have HN : Hid (r ≤ 1048576 → n ≤ 1048576) := fun h => by have := (hr2 h).2; omega
  clear hr2
  go_loop [3, 4] (fun s t => ∃ (j : Nat) (x : Int), j ≤ n ∧ t = .int .i64 j ∧ s = .int .i64 x ∧ 0 ≤ x ∧ x ≤ 1048577 ∧ Hid (x ≤ 1048576 → n ≤ 1048576 ∧ ∀ p, p < j → ∀ q, q < 5 → sn p q ≤ 1048576)) (fun _ t => n - (intOf t).toNat)
  case atStart => exact ⟨0, r, by omega, rfl, rfl, hr0, hr1, fun h => ⟨HN.out h, fun p hp => absurd hp (by omega)⟩⟩
  case round =>
    obtain ⟨j, x, hj, rfl, rfl, hx0, hx1, HX⟩ := hrel
    by_cases hlt : j < n ∧ x ≤ 1048576
    · obtain ⟨hlt, hx⟩ := hlt
      have hi : (j : Int) < (n : Int) := by omega
      have k0 := Z.sl j hlt 0 (by omega)
      have k1 := Z.sl j hlt 1 (by omega)
      have k2 := Z.sl j hlt 2 (by omega)
      have k3 := Z.sl j hlt 3 (by omega)
      have k4 := Z.sl j hlt 4 (by omega)
      go_wp2_with fail
      refine (add_any _ _ _ _ (by omega) (by omega) (by omega) (by omega) (by omega)).mono ?_
      rintro e u1 ⟨r1, rfl, ha1, hb1, hc1, rfl⟩
      have HC1 : Hid (r1 ≤ 1048576 → x ≤ 1048576 ∧ sn j 0 ≤ 1048576) := fun h => by have := hc1 h; omega
      clear hc1
      go_wp2_with fail
      refine (add_any _ _ _ _ (by omega) (by omega) (by omega) (by omega) (by omega)).mono ?_
      rintro e u2 ⟨r2, rfl, ha2, hb2, hc2, rfl⟩
      have HC2 : Hid (r2 ≤ 1048576 → r1 ≤ 1048576 ∧ sn j 1 ≤ 1048576) := fun h => by have := hc2 h; omega
      clear hc2
      go_wp2_with fail
      refine (add_any _ _ _ _ (by omega) (by omega) (by omega) (by omega) (by omega)).mono ?_
      rintro e u3 ⟨r3, rfl, ha3, hb3, hc3, rfl⟩
      have HC3 : Hid (r3 ≤ 1048576 → r2 ≤ 1048576 ∧ sn j 2 ≤ 1048576) := fun h => by have := hc3 h; omega
      clear hc3
      go_wp2_with fail
      refine (add_any _ _ _ _ (by omega) (by omega) (by omega) (by omega) (by omega)).mono ?_
      rintro e u4 ⟨r4, rfl, ha4, hb4, hc4, rfl⟩
      have HC4 : Hid (r4 ≤ 1048576 → r3 ≤ 1048576 ∧ sn j 3 ≤ 1048576) := fun h => by have := hc4 h; omega
      clear hc4
      go_wp2_with fail
      refine (add_any _ _ _ _ (by omega) (by omega) (by omega) (by omega) (by omega)).mono ?_
      rintro e u5 ⟨r5, rfl, ha5, hb5, hc5, rfl⟩
      have HC5 : Hid (r5 ≤ 1048576 → r4 ≤ 1048576 ∧ sn j 4 ≤ 1048576) := fun h => by have := hc5 h; omega
      clear hc5
      go_wp2_with fail
      refine ⟨⟨j + 1, r5, by omega, by go_num, rfl, ha5, hb5, fun h => ?_⟩, by simp [intOf]; omega⟩
      have a5 := HC5.out h
      have a4 := HC4.out a5.1
      have a3 := HC3.out a4.1
      have a2 := HC2.out a3.1
      have a1 := HC1.out a2.1
      obtain ⟨g1, g2⟩ := HX.out a1.1
      refine ⟨g1, fun p hp q hq => ?_⟩
      by_cases e : p = j
      · subst e
        rcases (by omega : q = 0 ∨ q = 1 ∨ q = 2 ∨ q = 3 ∨ q = 4) with rfl | rfl | rfl | rfl | rfl
        · exact a1.2
        · exact a2.2
        · exact a3.2
        · exact a4.2
        · exact a5.2
      · exact g2 p (by omega) q hq
    · by_cases h1 : j < n
      · have hx : ¬ x ≤ 1048576 := fun h => hlt ⟨h1, h⟩
        clear hlt
        go_wp2
        go_ret
        exact ⟨_, rfl, hx0, hx1, fun h => by omega, rfl⟩
      · clear hlt
        go_wp2
        go_ret
        refine ⟨_, rfl, hx0, hx1, fun h => ?_, rfl⟩
        obtain ⟨g1, g2⟩ := HX.out h
        exact ⟨g1, fun p hp => g2 p (by omega)⟩

/-- The call returned a bool. -/
def IsBool (e : Ending) : Prop := ∃ x : Bool, e = .returned (.bool x)

set_option maxRecDepth 100000 in
set_option maxHeartbeats 4000000 in
theorem zz34_ss (id : Int) (b1 o1 n1 c1 : Nat) (hd1 : Nat → Nat → Int) (sa1 : Nat → Nat → Option Addr) (sn1 sc1 : Nat → Nat → Nat) (z1 : Nat → Nat → Nat → Int) (b2 o2 n2 c2 : Nat) (hd2 : Nat → Nat → Int) (sa2 : Nat → Nat → Option Addr) (sn2 sc2 : Nat → Nat → Nat) (z2 : Nat → Nat → Nat → Int) (w : World) (h1 : n1 ≤ maxLen) (Z1 : ZPs w b1 o1 n1 hd1 sa1 sn1 sc1 z1) (h2 : n2 ≤ maxLen) (Z2 : ZPs w b2 o2 n2 hd2 sa2 sn2 sc2 z2) :
    Calls Try.prog 34 #[.int .u32 id, .slice (some ⟨b1, o1, none⟩) n1 c1, .slice (some ⟨b2, o2, none⟩) n2 c2] w fun e w' => IsBool e ∧ w' = w := by
  unfold maxLen at h1
  unfold maxLen at h2
  go_enter Try.func34, Try.ntmps34
  go_wp2
  any_goals (go_ret; exact ⟨⟨_, rfl⟩, rfl⟩)
  go_loop [7, 8] (fun s t => ∃ (j : Nat) (x : Int), j ≤ n1 ∧ t = .int .i64 j ∧ s = .int .i64 x ∧ 0 ≤ x ∧ x ≤ 1048576) (fun _ t => n1 - (intOf t).toNat)
  case atStart => exact ⟨0, _, by omega, rfl, rfl, by omega, by omega⟩
  case round =>
    obtain ⟨j, x, hj, rfl, rfl, hx0, hx1⟩ := hrel
    by_cases hlt : j < n1
    · have hi : (j : Int) < (n1 : Int) := by omega
      have k0 := Z1.sl j hlt 0 (by omega)
      have k1 := Z1.sl j hlt 1 (by omega)
      have k2 := Z1.sl j hlt 2 (by omega)
      have k3 := Z1.sl j hlt 3 (by omega)
      have k4 := Z1.sl j hlt 4 (by omega)
      go_wp2
      any_goals (go_ret; exact ⟨⟨_, rfl⟩, rfl⟩)
      go_loop [7, 9] (fun s t => ∃ (i : Nat) (x : Int), i ≤ 2 ∧ t = .int .i64 i ∧ s = .int .i64 x ∧ 0 ≤ x ∧ x ≤ 1048576) (fun _ t => 2 - (intOf t).toNat)
      case atStart => exact ⟨0, _, by omega, rfl, rfl, by omega, by omega⟩
      case round =>
        obtain ⟨i, x, hi2, rfl, rfl, hx0, hx1⟩ := hrel
        rcases (by omega : i = 0 ∨ i = 1 ∨ i = 2) with rfl | rfl | rfl
        · go_wp2
          any_goals (go_ret; exact ⟨⟨_, rfl⟩, rfl⟩)
          exact ⟨⟨1, _, by omega, rfl, rfl, by omega, by omega⟩, by simp [intOf]⟩
        · go_wp2
          any_goals (go_ret; exact ⟨⟨_, rfl⟩, rfl⟩)
          exact ⟨⟨2, _, by omega, rfl, rfl, by omega, by omega⟩, by simp [intOf]⟩
        · go_wp2
          go_loop [7, 10] (fun s t => ∃ (i : Nat) (x : Int), i ≤ 2 ∧ t = .int .i64 i ∧ s = .int .i64 x ∧ 0 ≤ x ∧ x ≤ 1048576) (fun _ t => 2 - (intOf t).toNat)
          case atStart => exact ⟨0, _, by omega, rfl, rfl, by omega, by omega⟩
          case round =>
            obtain ⟨i, x, hi3, rfl, rfl, hx0, hx1⟩ := hrel
            rcases (by omega : i = 0 ∨ i = 1 ∨ i = 2) with rfl | rfl | rfl
            · go_wp2
              any_goals (go_ret; exact ⟨⟨_, rfl⟩, rfl⟩)
              exact ⟨⟨1, _, by omega, rfl, rfl, by omega, by omega⟩, by simp [intOf]⟩
            · go_wp2
              any_goals (go_ret; exact ⟨⟨_, rfl⟩, rfl⟩)
              exact ⟨⟨2, _, by omega, rfl, rfl, by omega, by omega⟩, by simp [intOf]⟩
            · go_wp2
              exact ⟨⟨j + 1, _, by omega, by go_num, rfl, by omega, by omega⟩, by simp [intOf]; omega⟩
    · go_wp2
      any_goals (go_ret; exact ⟨⟨_, rfl⟩, rfl⟩)
      go_loop [7, 11] (fun s t => ∃ (j : Nat) (x : Int), j ≤ n2 ∧ t = .int .i64 j ∧ s = .int .i64 x ∧ 0 ≤ x ∧ x ≤ 1048576) (fun _ t => n2 - (intOf t).toNat)
      case atStart => exact ⟨0, _, by omega, rfl, rfl, by omega, by omega⟩
      case round =>
        obtain ⟨j, x, hj, rfl, rfl, hx0, hx1⟩ := hrel
        by_cases hlt : j < n2
        · have hi : (j : Int) < (n2 : Int) := by omega
          have k0 := Z2.sl j hlt 0 (by omega)
          have k1 := Z2.sl j hlt 1 (by omega)
          have k2 := Z2.sl j hlt 2 (by omega)
          have k3 := Z2.sl j hlt 3 (by omega)
          have k4 := Z2.sl j hlt 4 (by omega)
          go_wp2
          any_goals (go_ret; exact ⟨⟨_, rfl⟩, rfl⟩)
          go_loop [7, 12] (fun s t => ∃ (i : Nat) (x : Int), i ≤ 2 ∧ t = .int .i64 i ∧ s = .int .i64 x ∧ 0 ≤ x ∧ x ≤ 1048576) (fun _ t => 2 - (intOf t).toNat)
          case atStart => exact ⟨0, _, by omega, rfl, rfl, by omega, by omega⟩
          case round =>
            obtain ⟨i, x, hi2, rfl, rfl, hx0, hx1⟩ := hrel
            rcases (by omega : i = 0 ∨ i = 1 ∨ i = 2) with rfl | rfl | rfl
            · go_wp2
              any_goals (go_ret; exact ⟨⟨_, rfl⟩, rfl⟩)
              exact ⟨⟨1, _, by omega, rfl, rfl, by omega, by omega⟩, by simp [intOf]⟩
            · go_wp2
              any_goals (go_ret; exact ⟨⟨_, rfl⟩, rfl⟩)
              exact ⟨⟨2, _, by omega, rfl, rfl, by omega, by omega⟩, by simp [intOf]⟩
            · go_wp2
              go_loop [7, 13] (fun s t => ∃ (i : Nat) (x : Int), i ≤ 2 ∧ t = .int .i64 i ∧ s = .int .i64 x ∧ 0 ≤ x ∧ x ≤ 1048576) (fun _ t => 2 - (intOf t).toNat)
              case atStart => exact ⟨0, _, by omega, rfl, rfl, by omega, by omega⟩
              case round =>
                obtain ⟨i, x, hi3, rfl, rfl, hx0, hx1⟩ := hrel
                rcases (by omega : i = 0 ∨ i = 1 ∨ i = 2) with rfl | rfl | rfl
                · go_wp2
                  any_goals (go_ret; exact ⟨⟨_, rfl⟩, rfl⟩)
                  exact ⟨⟨1, _, by omega, rfl, rfl, by omega, by omega⟩, by simp [intOf]⟩
                · go_wp2
                  any_goals (go_ret; exact ⟨⟨_, rfl⟩, rfl⟩)
                  exact ⟨⟨2, _, by omega, rfl, rfl, by omega, by omega⟩, by simp [intOf]⟩
                · go_wp2
                  exact ⟨⟨j + 1, _, by omega, by go_num, rfl, by omega, by omega⟩, by simp [intOf]; omega⟩
        · go_wp2
          go_ret
          exact ⟨⟨_, rfl⟩, rfl⟩

set_option maxRecDepth 100000 in
set_option maxHeartbeats 4000000 in
theorem zz34_ns (id : Int) (b1 o1 n1 c1 : Nat) (hd1 : Nat → Nat → Int) (sa1 : Nat → Nat → Option Addr) (sn1 sc1 : Nat → Nat → Nat) (z1 : Nat → Nat → Nat → Int) (a2 : Option Addr) (c2 : Nat) (w : World) (h1 : n1 ≤ maxLen) (Z1 : ZPs w b1 o1 n1 hd1 sa1 sn1 sc1 z1) :
    Calls Try.prog 34 #[.int .u32 id, .slice (some ⟨b1, o1, none⟩) n1 c1, .slice a2 0 c2] w fun e w' => IsBool e ∧ w' = w := by
  unfold maxLen at h1
  go_enter Try.func34, Try.ntmps34
  go_wp2
  any_goals (go_ret; exact ⟨⟨_, rfl⟩, rfl⟩)
  go_loop [7, 8] (fun s t => ∃ (j : Nat) (x : Int), j ≤ n1 ∧ t = .int .i64 j ∧ s = .int .i64 x ∧ 0 ≤ x ∧ x ≤ 1048576) (fun _ t => n1 - (intOf t).toNat)
  case atStart => exact ⟨0, _, by omega, rfl, rfl, by omega, by omega⟩
  case round =>
    obtain ⟨j, x, hj, rfl, rfl, hx0, hx1⟩ := hrel
    by_cases hlt : j < n1
    · have hi : (j : Int) < (n1 : Int) := by omega
      have k0 := Z1.sl j hlt 0 (by omega)
      have k1 := Z1.sl j hlt 1 (by omega)
      have k2 := Z1.sl j hlt 2 (by omega)
      have k3 := Z1.sl j hlt 3 (by omega)
      have k4 := Z1.sl j hlt 4 (by omega)
      go_wp2
      any_goals (go_ret; exact ⟨⟨_, rfl⟩, rfl⟩)
      go_loop [7, 9] (fun s t => ∃ (i : Nat) (x : Int), i ≤ 2 ∧ t = .int .i64 i ∧ s = .int .i64 x ∧ 0 ≤ x ∧ x ≤ 1048576) (fun _ t => 2 - (intOf t).toNat)
      case atStart => exact ⟨0, _, by omega, rfl, rfl, by omega, by omega⟩
      case round =>
        obtain ⟨i, x, hi2, rfl, rfl, hx0, hx1⟩ := hrel
        rcases (by omega : i = 0 ∨ i = 1 ∨ i = 2) with rfl | rfl | rfl
        · go_wp2
          any_goals (go_ret; exact ⟨⟨_, rfl⟩, rfl⟩)
          exact ⟨⟨1, _, by omega, rfl, rfl, by omega, by omega⟩, by simp [intOf]⟩
        · go_wp2
          any_goals (go_ret; exact ⟨⟨_, rfl⟩, rfl⟩)
          exact ⟨⟨2, _, by omega, rfl, rfl, by omega, by omega⟩, by simp [intOf]⟩
        · go_wp2
          go_loop [7, 10] (fun s t => ∃ (i : Nat) (x : Int), i ≤ 2 ∧ t = .int .i64 i ∧ s = .int .i64 x ∧ 0 ≤ x ∧ x ≤ 1048576) (fun _ t => 2 - (intOf t).toNat)
          case atStart => exact ⟨0, _, by omega, rfl, rfl, by omega, by omega⟩
          case round =>
            obtain ⟨i, x, hi3, rfl, rfl, hx0, hx1⟩ := hrel
            rcases (by omega : i = 0 ∨ i = 1 ∨ i = 2) with rfl | rfl | rfl
            · go_wp2
              any_goals (go_ret; exact ⟨⟨_, rfl⟩, rfl⟩)
              exact ⟨⟨1, _, by omega, rfl, rfl, by omega, by omega⟩, by simp [intOf]⟩
            · go_wp2
              any_goals (go_ret; exact ⟨⟨_, rfl⟩, rfl⟩)
              exact ⟨⟨2, _, by omega, rfl, rfl, by omega, by omega⟩, by simp [intOf]⟩
            · go_wp2
              exact ⟨⟨j + 1, _, by omega, by go_num, rfl, by omega, by omega⟩, by simp [intOf]; omega⟩
    · go_wp2
      refine wp_loop_rounds 1 ?_; rw [rounds_succ]
      go_wp2
      go_ret
      exact ⟨⟨_, rfl⟩, rfl⟩

set_option maxRecDepth 100000 in
set_option maxHeartbeats 4000000 in
theorem zz34_sn (id : Int) (a1 : Option Addr) (c1 : Nat) (b2 o2 n2 c2 : Nat) (hd2 : Nat → Nat → Int) (sa2 : Nat → Nat → Option Addr) (sn2 sc2 : Nat → Nat → Nat) (z2 : Nat → Nat → Nat → Int) (w : World) (h2 : n2 ≤ maxLen) (Z2 : ZPs w b2 o2 n2 hd2 sa2 sn2 sc2 z2) :
    Calls Try.prog 34 #[.int .u32 id, .slice a1 0 c1, .slice (some ⟨b2, o2, none⟩) n2 c2] w fun e w' => IsBool e ∧ w' = w := by
  unfold maxLen at h2
  go_enter Try.func34, Try.ntmps34
  go_wp2
  refine wp_loop_rounds 1 ?_; rw [rounds_succ]
  go_wp2
  any_goals (go_ret; exact ⟨⟨_, rfl⟩, rfl⟩)
  go_loop [7, 11] (fun s t => ∃ (j : Nat) (x : Int), j ≤ n2 ∧ t = .int .i64 j ∧ s = .int .i64 x ∧ 0 ≤ x ∧ x ≤ 1048576) (fun _ t => n2 - (intOf t).toNat)
  case atStart => exact ⟨0, _, by omega, rfl, rfl, by omega, by omega⟩
  case round =>
    obtain ⟨j, x, hj, rfl, rfl, hx0, hx1⟩ := hrel
    by_cases hlt : j < n2
    · have hi : (j : Int) < (n2 : Int) := by omega
      have k0 := Z2.sl j hlt 0 (by omega)
      have k1 := Z2.sl j hlt 1 (by omega)
      have k2 := Z2.sl j hlt 2 (by omega)
      have k3 := Z2.sl j hlt 3 (by omega)
      have k4 := Z2.sl j hlt 4 (by omega)
      go_wp2
      any_goals (go_ret; exact ⟨⟨_, rfl⟩, rfl⟩)
      go_loop [7, 12] (fun s t => ∃ (i : Nat) (x : Int), i ≤ 2 ∧ t = .int .i64 i ∧ s = .int .i64 x ∧ 0 ≤ x ∧ x ≤ 1048576) (fun _ t => 2 - (intOf t).toNat)
      case atStart => exact ⟨0, _, by omega, rfl, rfl, by omega, by omega⟩
      case round =>
        obtain ⟨i, x, hi2, rfl, rfl, hx0, hx1⟩ := hrel
        rcases (by omega : i = 0 ∨ i = 1 ∨ i = 2) with rfl | rfl | rfl
        · go_wp2
          any_goals (go_ret; exact ⟨⟨_, rfl⟩, rfl⟩)
          exact ⟨⟨1, _, by omega, rfl, rfl, by omega, by omega⟩, by simp [intOf]⟩
        · go_wp2
          any_goals (go_ret; exact ⟨⟨_, rfl⟩, rfl⟩)
          exact ⟨⟨2, _, by omega, rfl, rfl, by omega, by omega⟩, by simp [intOf]⟩
        · go_wp2
          go_loop [7, 13] (fun s t => ∃ (i : Nat) (x : Int), i ≤ 2 ∧ t = .int .i64 i ∧ s = .int .i64 x ∧ 0 ≤ x ∧ x ≤ 1048576) (fun _ t => 2 - (intOf t).toNat)
          case atStart => exact ⟨0, _, by omega, rfl, rfl, by omega, by omega⟩
          case round =>
            obtain ⟨i, x, hi3, rfl, rfl, hx0, hx1⟩ := hrel
            rcases (by omega : i = 0 ∨ i = 1 ∨ i = 2) with rfl | rfl | rfl
            · go_wp2
              any_goals (go_ret; exact ⟨⟨_, rfl⟩, rfl⟩)
              exact ⟨⟨1, _, by omega, rfl, rfl, by omega, by omega⟩, by simp [intOf]⟩
            · go_wp2
              any_goals (go_ret; exact ⟨⟨_, rfl⟩, rfl⟩)
              exact ⟨⟨2, _, by omega, rfl, rfl, by omega, by omega⟩, by simp [intOf]⟩
            · go_wp2
              exact ⟨⟨j + 1, _, by omega, by go_num, rfl, by omega, by omega⟩, by simp [intOf]; omega⟩
    · go_wp2
      go_ret
      exact ⟨⟨_, rfl⟩, rfl⟩

set_option maxRecDepth 100000 in
set_option maxHeartbeats 4000000 in
theorem zz34_nn (id : Int) (a1 : Option Addr) (c1 : Nat) (a2 : Option Addr) (c2 : Nat) (w : World)  :
    Calls Try.prog 34 #[.int .u32 id, .slice a1 0 c1, .slice a2 0 c2] w fun e w' => IsBool e ∧ w' = w := by
  go_enter Try.func34, Try.ntmps34
  go_wp2
  refine wp_loop_rounds 1 ?_; rw [rounds_succ]
  go_wp2
  refine wp_loop_rounds 1 ?_; rw [rounds_succ]
  go_wp2
  go_ret
  exact ⟨⟨_, rfl⟩, rfl⟩
end Go.Proofs.Qxb6601243a
