/-
  'FnSecondFractionInvertsNineDigits': the walk.
-/
import Derived.Test.Qxb6601329aModelWalk
import Derived.Test.Qxb6601329aNinePlain
import Derived.OwnWalk
import Derived.Maps.AppendAt
import Derived.Laws.IdiomStrings
namespace Go.Proofs.Qxb6601329a
open Go.RowKit

set_option maxHeartbeats 400000 in
theorem zz17 (n : Int) (a b : ByteArray) (w : World) (ha : a.size ≤ maxLen) (hb : b.size ≤ maxLen) :
    Calls Try.prog 17 #[.int .i64 n, .string a, .string b] w fun e w' => ∃ x, e = .returned (.bool x) ∧ w' = w := by
  unfold maxLen at ha hb
  go_enter Try.func17, Try.ntmps17
  go_wp2
  all_goals (go_ret; exact ⟨_, rfl, rfl⟩)

theorem info5 : (Try.prog.info? 5).map (fun i => (i.zero, i.size, i.bytes)) = some (some (.int .u8 0), 1, 1) := by kernel_rfl

/-- The cells of a row of bytes. -/
def cellsB (l : List UInt8) : List Value := l.map fun b => Value.int .u8 (b.toNat : Int)
theorem cellsB_snoc (l : List UInt8) (x : UInt8) : cellsB (l ++ [x]) = cellsB l ++ [.int .u8 (x.toNat : Int)] := by simp [cellsB]
/-- The call's own row of bytes: the slice at block B, of m elements and capacity cap, holds l; what lay below B is as it was. -/
structure Has (B cap : Nat) (w0 w1 : World) (m : Nat) (l : List UInt8) : Prop where
  own : w1.ownsRow B 5 1 (.slice (some ⟨B, 0, none⟩) m cap) m (cellsB l)
  bel : Below B w0 w1
  len : l.length = m
theorem Has.step {B cap m : Nat} {w0 wr w1 : World} {l : List UInt8} (h : Has B cap w0 wr m l) (hB : B ≤ wr.heap.size) (o : Obj) (x : UInt8)
    (ho : w1.ownsRow B 5 1 (.slice (some ⟨B, 0, none⟩) (m + 1) cap) (m + 1) (cellsB l ++ [.int .u8 (x.toNat : Int)])) (hg : (wr.alloc o).grownBy w1 (some B)) :
    Has B cap w0 w1 (m + 1) (l ++ [x]) :=
  ⟨by rw [cellsB_snoc]; exact ho, (h.bel.alloc hB o).grown hg (by simp; omega) (fun k e => by cases e; exact Nat.le_refl _), by simp [h.len]⟩
theorem Has.size {B cap m : Nat} {w0 w1 : World} {l : List UInt8} (h : Has B cap w0 w1 m l) (hB : B ≤ w0.heap.size) : B ≤ w1.heap.size := Nat.le_trans hB h.bel.size

theorem nine_byte (n j : Nat) (hj : j < 9) : (48 + (n : Int) / p10 (8 - (j : Int)) % 10) = ((nineByte n j).toNat : Int) := by
  rw [nineByte_toNat]
  unfold nineDig p10
  rw [show (8 - (j : Int)).toNat = 8 - j by omega]
  push_cast
  rfl
theorem take_snoc (s : ByteArray) (k : Nat) (h : k < s.size) : s.data.toList.take (k + 1) = s.data.toList.take k ++ [s[k]] := by
  rw [List.take_succ_eq_append_getElem (by rw [len_toList]; exact h)]; rfl
theorem take_all (s : ByteArray) : s.data.toList.take s.size = s.data.toList := List.take_of_length_le (by rw [len_toList]; omega)
/-- 'string(buf)'. -/
theorem Has.text {B cap m : Nat} {w0 w1 : World} {l : List UInt8} (h : Has B cap w0 w1 m l) :
    (convert 22 9 (.slice (some ⟨B, 0, none⟩) m cap)).run Try.prog w1 = .ok (.string ⟨l.toArray⟩) w1 := by
  obtain ⟨ho, _, rfl⟩ := h
  refine run_convert_bytes_back w1 22 9 5 ⟨B, 0, none⟩ cap l Try.underlying22 Try.underlying5 Try.underlying9 (fun j hj => ?_)
  exact ho.cells (g := B) rfl j _ (by simp [cellsB, hj])

/-- The call of 'ZZsecondFraction' at the whole text. -/
theorem nine_call (n : Nat) (a1 a2 : ByteArray) (hn : n < 1000000000) (h1 : a1.size ≤ 524288) (h2 : a2.size ≤ 524288) (hd : ∀ i (h : i < a1.size), 48 ≤ (a1[i].toNat : Int) ∧ (a1[i].toNat : Int) ≤ 57) (hr : ∀ c, a2.data.toList[0]? = some c → isDig c = false) (w : World) :
    Calls Try.prog 15 #[.string (wholeS n a1.data.toList a2.data.toList)] w fun e w' => e = .returned (.tuple #[.int .i64 n, .string a2]) ∧ ∃ n, w' = w.drewN n := by
  have hdot : dot (wholeS n a1.data.toList a2.data.toList) = true := by unfold dot; rw [dot_whole]; rfl
  have hsz : (wholeS n a1.data.toList a2.data.toList).size ≤ 2097152 := by rw [wholeS_size, len_toList, len_toList]; omega
  have he : ∀ c ∈ a1.data.toList, isDig c = true := by
    intro c hc
    obtain ⟨i, hi⟩ := List.getElem?_of_mem hc
    have hi' : i < a1.size := by
      rcases Nat.lt_or_ge i a1.size with h | h
      · exact h
      · rw [List.getElem?_eq_none (by rw [len_toList]; exact h)] at hi; cases hi
    rw [at_toList a1 i hi'] at hi
    rw [← Option.some.inj hi]
    exact (isDig_iff _).2 (hd i hi')
  refine zzFrac _ _ _ (fun w => ?_) w
  have := frac_some _ _ (frac_whole n a1.data.toList a2.data.toList he hr) (by omega) w hsz hdot
  rw [horner_whole n hn, rest_whole] at this
  exact this

theorem quo_bd (n : Nat) (p : Int) (hp : 1 ≤ p) : 0 ≤ (n : Int) / p ∧ (n : Int) / p ≤ n :=
  ⟨Int.ediv_nonneg (by omega) (by omega), Int.ediv_le_self _ (by omega)⟩

set_option maxHeartbeats 4000000 in
theorem nine_walk (n : Int) (a1 : ByteArray) (a2 : ByteArray) (w1 : a1.size ≤ maxLen) (w2 : a2.size ≤ maxLen) (w : World) :
    Calls Try.prog 6 #[.int .i64 n, .string a1, .string a2] w fun e w' => e = .returned (.bool true) ∧ Below w.heap.size w w' := by
  have w1' := w1
  have w2' := w2
  unfold maxLen at w1' w2'
  go_enter Try.func6, Try.ntmps6
  go_wp2_with (go_at_call 17; refine (zz17 _ _ _ _ w1 w2).mono ?_; rintro e W0 ⟨b, rfl, rfl⟩)
  any_goals (go_ret; exact ⟨rfl, Below.refl _ _⟩)
  have hz1 : a1.size ≤ 524288 := by omega
  have hz2 : a2.size ≤ 524288 := by omega
  obtain ⟨n, rfl⟩ : ∃ m : Nat, n = m := ⟨n.toNat, by omega⟩
  have hn : n < 1000000000 := by omega
  go_loop [7] (fun t => ∃ j : Nat, j ≤ a1.size ∧ t = .int .i64 j ∧ Hid (∀ i (h : i < a1.size), i < j → 48 ≤ (a1[i].toNat : Int) ∧ (a1[i].toNat : Int) ≤ 57)) (fun t => a1.size - (intOf t).toNat)
  case atStart => exact ⟨0, by omega, rfl, fun i _ h => absurd h (by omega)⟩
  case round =>
    obtain ⟨j, hj, rfl, HD⟩ := hrel
    by_cases hlt : j < a1.size
    · have hi : (j : Int) < (a1.size : Int) := by omega
      by_cases hd : 48 ≤ (a1[j].toNat : Int) ∧ (a1[j].toNat : Int) ≤ 57
      · obtain ⟨hd1, hd2⟩ := hd
        go_wp2
        refine ⟨⟨j + 1, by omega, by go_num, fun i h hi => ?_⟩, by simp [intOf]; omega⟩
        by_cases e : i = j
        · subst e; exact ⟨hd1, hd2⟩
        · exact HD.out i h (by omega)
      · by_cases hd1 : 48 ≤ (a1[j].toNat : Int)
        · have hd2 : ¬ (a1[j].toNat : Int) ≤ 57 := fun h => hd ⟨hd1, h⟩
          clear hd
          go_wp2
          go_ret
          exact ⟨rfl, Below.refl _ _⟩
        · clear hd
          go_wp2
          go_ret
          exact ⟨rfl, Below.refl _ _⟩
    · have HD' : Hid (∀ i (h : i < a1.size), 48 ≤ (a1[i].toNat : Int) ∧ (a1[i].toNat : Int) ≤ 57) := fun i h => HD.out i h (by omega)
      clear HD
      obtain ⟨i0, hi, hq0, hq1, hq2⟩ := info_parts info5
      by_cases hdig : ∃ h : 0 < a2.size, 48 ≤ (a2[0].toNat : Int) ∧ (a2[0].toNat : Int) ≤ 57
      · obtain ⟨hp, hd1, hd2⟩ := hdig
        go_wp2
        go_ret
        exact ⟨rfl, Below.refl _ _⟩
      · have HR : Hid (∀ c, a2.data.toList[0]? = some c → isDig c = false) := by
          intro c hc
          have hp : 0 < a2.size := by
            rcases Nat.eq_zero_or_pos a2.size with h0 | h0
            · rw [List.getElem?_eq_none (by rw [len_toList]; omega)] at hc; cases hc
            · exact h0
          rw [at_toList a2 0 hp] at hc
          rw [← Option.some.inj hc]
          cases hx : isDig a2[0] with
          | false => rfl
          | true => exact absurd ⟨hp, (isDig_iff _).1 hx⟩ hdig
        have three : a2.size ≤ 0 ∨ (∃ h : 0 < a2.size, (a2[0].toNat : Int) < 48) ∨ (∃ h : 0 < a2.size, 48 ≤ (a2[0].toNat : Int) ∧ 57 < (a2[0].toNat : Int)) := by
          by_cases h0 : 0 < a2.size
          · by_cases h1 : 48 ≤ (a2[0].toNat : Int)
            · exact .inr (.inr ⟨h0, h1, by
                by_cases h : (a2[0].toNat : Int) ≤ 57
                · exact absurd ⟨h0, h1, h⟩ hdig
                · omega⟩)
            · exact .inr (.inl ⟨h0, by omega⟩)
          · exact .inl (by omega)
        clear hdig
        rcases three with hc | ⟨hp, hc⟩ | ⟨hp, hc2, hc⟩
        all_goals
          go_wp2_with (first | (at_make; refine wpList_make_own _ rfl _ _ 22 rfl W0.heap.size 5 i0 (.int .u8 0) 1 Try.underlying22 hi hq0 hq1 _ _ _ (10 + a1.size + a2.size) rfl rfl ?_ ?_ ?_ ?_ ?_) | go_in)
          · omega
          · unfold maxLen; omega
          intro u1 hown hgrow
          have hH0 : Has W0.heap.size (10 + a1.size + a2.size) W0 u1 0 [] := ⟨hown, (Below.refl _ _).grown hgrow (Nat.le_refl _) (fun k e => by cases e), rfl⟩
          have hs0 := hH0.size (Nat.le_refl _)
          clear hown hgrow hc
          go_wp2_with (first | (at_builtin; refine wpList_append_fits _ rfl _ _ 22 rfl W0.heap.size 5 i0 1 Try.underlying22 hi hq1 W0.heap.size 0 (10 + a1.size + a2.size) _ rfl (hH0.own.alloc _) ⟨u1.heap.size, 0, none⟩ 1 1 [.int .u8 46] rfl rfl (cell_one_new _ _ _) ?_ ?_ ?_) | go_in)
          · intro u hu; simp at hu; subst hu; rfl
          · omega
          intro u2 ho hg
          have hH1 : Has W0.heap.size (10 + a1.size + a2.size) W0 u2 1 (txt n 0) := hH0.step hs0 _ 46 ho hg
          clear ho hg hH0 hs0
          go_wp2
          go_loopw [8, 9] (fun v t w1 => ∃ j : Nat, j ≤ 9 ∧ t = .int .i64 (8 - (j : Int)) ∧ v = .slice (some ⟨W0.heap.size, 0, none⟩) (j + 1) (10 + a1.size + a2.size) ∧ Has W0.heap.size (10 + a1.size + a2.size) W0 w1 (j + 1) (txt n j)) (fun _ t _ => (intOf t + 1).toNat)
          case atStart => exact ⟨0, by omega, rfl, rfl, hH1⟩
          case round =>
            obtain ⟨j, hj, rfl, rfl, hH⟩ := hrel
            have hsz := hH.size (Nat.le_refl _)
            by_cases hlt : j < 9
            · obtain ⟨hp1, hp2⟩ := p10_bd (x := 8 - (j : Int)) (by omega)
              obtain ⟨hq1', hq2'⟩ := quo_bd n (p10 (8 - (j : Int))) hp1
              go_wp2_with (first | (go_at_call 19; refine (pow10_any _ (by omega) (by omega) _).mono ?_; rintro e u3 ⟨rfl, rfl⟩) | (at_builtin; refine wpList_append_fits _ rfl _ _ 22 rfl W0.heap.size 5 i0 1 Try.underlying22 hi hq1 W0.heap.size (j + 1) (10 + a1.size + a2.size) _ rfl (hH.own.alloc _) ⟨_, 0, none⟩ 1 1 [_] rfl rfl (cell_one_new _ _ _) ?_ ?_ ?_))
              · intro u hu; simp at hu; subst hu; rfl
              · omega
              intro u4 ho hg
              rw [nine_byte n j (by omega)] at ho
              have hH2 := hH.step hsz _ (nineByte n j) ho hg
              rw [← txt_succ] at hH2
              clear ho hg hH hsz
              go_wp2
              go_roundw
              case rel => first | exact ⟨j + 1, by omega, by go_num, rfl, hH2⟩ | ((repeat apply Exists.intro); exact ⟨⟨j + 1, by omega, by go_num, rfl, hH2⟩, rfl⟩)
              case measure => simp [intOf]; omega
            · obtain rfl : j = 9 := by omega
              clear hsz hlt hj
              go_wp2
              go_loopw [8, 10] (fun v t w1 => ∃ j : Nat, j ≤ a1.size ∧ t = .int .i64 j ∧ v = .slice (some ⟨W0.heap.size, 0, none⟩) (10 + j) (10 + a1.size + a2.size) ∧ Has W0.heap.size (10 + a1.size + a2.size) W0 w1 (10 + j) (txt n 9 ++ a1.data.toList.take j)) (fun _ t _ => a1.size - (intOf t).toNat)
              case atStart => exact ⟨0, by omega, rfl, rfl, by simpa using hH⟩
              case round =>
                obtain ⟨j, hj, rfl, rfl, hH⟩ := hrel
                have hsz := hH.size (Nat.le_refl _)
                by_cases hlt : j < a1.size
                · have hij : (j : Int) < (a1.size : Int) := by omega
                  go_wp2_with (at_builtin; refine wpList_append_fits _ rfl _ _ 22 rfl W0.heap.size 5 i0 1 Try.underlying22 hi hq1 W0.heap.size (10 + j) (10 + a1.size + a2.size) _ rfl (hH.own.alloc _) ⟨_, 0, none⟩ 1 1 [_] rfl rfl (cell_one_new _ _ _) ?_ ?_ ?_)
                  · intro u hu; simp at hu; subst hu; rfl
                  · omega
                  intro u4 ho hg
                  have hH2 := hH.step hsz _ a1[j] ho hg
                  rw [List.append_assoc, ← take_snoc a1 j hlt] at hH2
                  clear ho hg hH hsz
                  go_wp2
                  go_roundw
                  case rel => first | exact ⟨j + 1, by omega, by go_num, rfl, hH2⟩ | ((repeat apply Exists.intro); exact ⟨⟨j + 1, by omega, by go_num, rfl, hH2⟩, rfl⟩)
                  case measure => simp [intOf]; omega
                · obtain rfl : j = a1.size := by omega
                  rw [take_all] at hH
                  clear hsz hlt hj
                  go_wp2
                  go_loopw [8, 11] (fun v t w1 => ∃ j : Nat, j ≤ a2.size ∧ t = .int .i64 j ∧ v = .slice (some ⟨W0.heap.size, 0, none⟩) (10 + a1.size + j) (10 + a1.size + a2.size) ∧ Has W0.heap.size (10 + a1.size + a2.size) W0 w1 (10 + a1.size + j) (txt n 9 ++ a1.data.toList ++ a2.data.toList.take j)) (fun _ t _ => a2.size - (intOf t).toNat)
                  case atStart => exact ⟨0, by omega, rfl, rfl, by simpa using hH⟩
                  case round =>
                    obtain ⟨j, hj, rfl, rfl, hH⟩ := hrel
                    have hsz := hH.size (Nat.le_refl _)
                    by_cases hlt : j < a2.size
                    · first
                      | (exfalso; omega)
                      | (have hij : (j : Int) < (a2.size : Int) := by omega
                         go_wp2_with (at_builtin; refine wpList_append_fits _ rfl _ _ 22 rfl W0.heap.size 5 i0 1 Try.underlying22 hi hq1 W0.heap.size (10 + a1.size + j) (10 + a1.size + a2.size) _ rfl (hH.own.alloc _) ⟨_, 0, none⟩ 1 1 [_] rfl rfl (cell_one_new _ _ _) ?_ ?_ ?_)
                         · intro u hu; simp at hu; subst hu; rfl
                         · omega
                         intro u4 ho hg
                         have hH2 := hH.step hsz _ a2[j] ho hg
                         rw [List.append_assoc, ← take_snoc a2 j hlt] at hH2
                         clear ho hg hH hsz
                         go_wp2
                         go_roundw
                         case rel => first | exact ⟨j + 1, by omega, by go_num, rfl, hH2⟩ | ((repeat apply Exists.intro); exact ⟨⟨j + 1, by omega, by go_num, rfl, hH2⟩, rfl⟩)
                         case measure => simp [intOf]; omega)
                    · obtain rfl : j = a2.size := by omega
                      rw [take_all] at hH
                      have hcv : (convert 22 9 (.slice (some ⟨W0.heap.size, 0, none⟩) (10 + a1.size + a2.size) (10 + a1.size + a2.size))).run Try.prog wr = .ok (.string (wholeS n a1.data.toList a2.data.toList)) wr := hH.text
                      have HB : Hid (Below W0.heap.size W0 wr) := hH.bel
                      clear hsz hlt hj hH
                      go_wp2_with fail
                      refine (nine_call n a1 a2 hn hz1 hz2 HD'.out HR.out _).mono ?_
                      rintro e u5 ⟨rfl, nq, rfl⟩
                      go_wp2
                      go_ret
                      exact ⟨rfl, below_drewN HB.out _⟩
end Go.Proofs.Qxb6601329a
