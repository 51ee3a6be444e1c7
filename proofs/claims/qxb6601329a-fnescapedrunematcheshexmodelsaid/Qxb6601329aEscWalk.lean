/-
  'FnEscapedRuneMatchesHexModel': the walk.
-/
import Derived.Test.Qxb6601329aHexWalk
import Derived.OwnWalk
import Derived.Laws.CopyOwn
namespace Go.Proofs.Qxb6601329a
open Go.RowKit

theorem info5e : (Try.prog.info? 5).map (fun i => (i.zero, i.size, i.bytes)) = some (some (.int .u8 0), 1, 1) := by kernel_rfl
theorem size5e : (Try.prog.info? 5).map (·.size) = some 1 := by kernel_rfl

/-- A cell of a block that is known whole. -/
theorem cell_of_heap {w : World} {b : Nat} {cs : Array Value} {t : TypeId} {fr : Nat × Nat} (h : w.heap[b]? = some (.cells cs t fr)) (i : Nat) : w.cell? ⟨b, i, none⟩ = cs[i]? := by
  unfold World.cell?
  rw [h]
  rfl

/-- What lies in the copy. -/
theorem six_of {w : World} {b n : Nat} {cur cs : List Value} {zs : List Int} (hg : w.heap[b]? = some (.cells (splice cur 0 cs).toArray 5 (0, 0))) (hcs : cs = (zs.take n).map (Value.int .u8)) (hn : 6 ≤ n) (hz : n ≤ zs.length)
    (hw : ∀ z ∈ zs, (Lit.int .u8 z).wf = true) : Six w b (fun i => zs.getD i 0) := by
  constructor
  · intro i hi
    rw [cell_of_heap hg]
    have hl : cs.length = n := by rw [hcs]; simp; omega
    rw [List.getElem?_toArray]
    unfold splice
    rw [List.take_zero, List.nil_append, List.getElem?_append_left (by omega), hcs, List.getElem?_map, List.getElem?_take_of_lt (by omega), List.getElem?_eq_getElem (by omega), List.getD_eq_getElem?_getD, List.getElem?_eq_getElem (by omega)]
    rfl
  · intro i
    have e1 : IntKind.u8.min = 0 := rfl
    have e2 : IntKind.u8.max = 255 := rfl
    by_cases hi : i < zs.length
    · have hm := hw zs[i] (List.getElem_mem hi)
      simp only [Lit.wf, e1, e2, Bool.and_eq_true, decide_eq_true_eq] at hm
      simp only [List.getD_eq_getElem?_getD, List.getElem?_eq_getElem hi, Option.getD_some]
      omega
    · simp only [List.getD_eq_getElem?_getD, List.getElem?_eq_none (Nat.le_of_not_lt hi), Option.getD_none]
      omega

/-- The two answers are one, at the copy. -/
theorem both_at (w : World) (b n : Nat) (cur cs : List Value) (zs : List Int) (hg : w.heap[b]? = some (.cells (splice cur 0 cs).toArray 5 (0, 0))) (hcs : cs = (zs.take n).map (Value.int .u8)) (hz : n ≤ zs.length)
    (hw : ∀ z ∈ zs, (Lit.int .u8 z).wf = true) : ∃ x y, (Calls Try.prog 10 #[.slice (some ⟨b, 0, none⟩) n n] w fun e w' => e = .returned (.tuple #[.int .i32 x, .bool y]) ∧ w' = w) ∧ (Calls Try.prog 11 #[.slice (some ⟨b, 0, none⟩) n n] w fun e w' => e = .returned (.tuple #[.int .i32 x, .bool y]) ∧ w' = w) := by
  by_cases hn : 6 ≤ n
  · have S := six_of hg hcs hn hz hw
    exact ⟨_, _, zzEsc _ _ _ w (esc_long b n n hn (Nat.le_refl _) _ w S), model_long b n n hn (Nat.le_refl _) _ w S⟩
  · obtain ⟨x, y, h1, h2⟩ := both_short (some ⟨b, 0, none⟩) n n (by omega)
    exact ⟨x, y, h1 w, h2 w⟩

set_option maxHeartbeats 400000 in
theorem esc_nil (w : World) :
    Calls Try.prog 3 #[.slice none 0 0] w fun e w' => e = .returned (.bool true) ∧ Below w.heap.size w w' := by
  have hne := fun w => run_neq_slice_nil_any (P := Try.prog) w 22 5 none 0 0 0 0 Try.underlying22
  obtain ⟨x, y, h1, h2⟩ := both_short none 0 0 (by omega)
  have H1 : Hid (∀ w, Calls Try.prog 10 #[.slice none 0 0] w fun e w' => e = .returned (.tuple #[.int .i32 x, .bool y]) ∧ w' = w) := h1
  have H2 : Hid (∀ w, Calls Try.prog 11 #[.slice none 0 0] w fun e w' => e = .returned (.tuple #[.int .i32 x, .bool y]) ∧ w' = w) := h2
  clear h1 h2
  go_enter Try.func3, Try.ntmps3
  go_wp2_with (go_at_call 9; refine (zz9 _ _ _ _ (by decide)).mono ?_; rintro e w' ⟨b, rfl, rfl⟩)
  · go_ret; exact ⟨rfl, Below.refl _ _⟩
  refine (H1.out _).mono ?_
  rintro e w1 ⟨rfl, rfl⟩
  go_wp2_with fail
  refine (H2.out _).mono ?_
  rintro e w1 ⟨rfl, rfl⟩
  go_wp2
  go_ret
  exact ⟨rfl, Below.refl _ _⟩

/-- A row that was just made, as a block. -/
theorem row_of {w : World} {b n : Nat} {xs : List Value} (h : w.ownsRow b 5 1 (.slice (some ⟨b, 0, none⟩) n n) n xs) : ∃ cur : List Value, w.heap[b]? = some (.cells cur.toArray 5 (0, 0)) ∧ cur.length = n := by
  rcases h.2 with ⟨e, _⟩ | ⟨g, cap, cur, e, _, hg, _, _, hsz, _⟩
  · cases e
  · cases e
    exact ⟨cur.toList, by simpa using hg, by simpa using hsz⟩

set_option maxHeartbeats 1000000 in
theorem esc_row (x : Addr) (len cap : Nat) (zs : List Int) (w : World) (hl : len ≤ cap) (hm : cap ≤ maxLen) (hz : zs.length = cap) (hc : ∀ i, i < zs.length → w.cell? (x.add i) = some (.int .u8 (zs.getD i 0))) (hw : ∀ n ∈ zs, (Lit.int .u8 n).wf = true) :
    Calls Try.prog 3 #[.slice (some x) len cap] w fun e w' => e = .returned (.bool true) ∧ Below w.heap.size w w' := by
  have hne := fun w => run_neq_slice_nil_any (P := Try.prog) w 22 5 (some x) len cap 0 0 Try.underlying22
  have hlen : len ≤ maxLen := by omega
  have hlen' := hlen
  unfold maxLen at hlen'
  obtain ⟨i0, hi, hq0, hq1, hq2⟩ := info_parts info5e
  have HC : Hid (∀ i, i < zs.length → w.cell? (x.add i) = some (.int .u8 (zs.getD i 0))) := hc
  have HW : Hid (∀ n ∈ zs, (Lit.int .u8 n).wf = true) := hw
  have HZ : Hid (zs.length = cap) := hz
  clear hc hw hz
  go_enter Try.func3, Try.ntmps3
  go_wp2_with (first | (go_at_call 9; refine (zz9 _ _ _ _ hlen).mono ?_; rintro e W0 ⟨b, rfl, rfl⟩) | (at_make; refine wpList_make_full _ rfl _ _ 22 rfl W0.heap.size 5 i0 (.int .u8 0) 1 Try.underlying22 hi hq0 hq1 _ _ _ _ len rfl rfl rfl rfl ?_ ?_ ?_ ?_))
  · go_ret; exact ⟨rfl, Below.refl _ _⟩
  · go_ret; exact ⟨rfl, Below.refl _ _⟩
  · rw [hq2]; omega
  · exact hlen
  · exact Nat.le_refl _
  intro u1 hown hgrow
  obtain ⟨cur, hcur, hcl⟩ := row_of hown
  have hb1 : Below W0.heap.size W0 u1 := (Below.refl _ _).grown hgrow (Nat.le_refl _) (fun k e => by cases e)
  obtain ⟨cs, hcs⟩ : ∃ cs, cs = (zs.take len).map (Value.int .u8) := ⟨_, rfl⟩
  have hcsl : cs.length = len := by rw [hcs]; have := HZ.out; simp; omega
  have hsrc : ∀ j v, cs[j]? = some v → u1.cell? (x.add j) = some v := by
    intro j v hv
    have hj : j < len := by
      rcases Nat.lt_or_ge j len with h | h
      · exact h
      · rw [List.getElem?_eq_none (by omega)] at hv; cases hv
    have hz := HZ.out
    rw [hcs, List.getElem?_map, List.getElem?_take_of_lt hj, List.getElem?_eq_getElem (by omega)] at hv
    have h0 := HC.out j (by omega)
    rw [List.getD_eq_getElem?_getD, List.getElem?_eq_getElem (by omega)] at h0
    rw [← Option.some.inj hv]
    exact hgrow.cell h0 (by simp)
  have hone : ∀ v ∈ cs, v.oneCell' = true := by
    intro v hv
    rw [hcs] at hv
    obtain ⟨z, _, rfl⟩ := List.mem_map.1 hv
    rfl
  have HCS : Hid (cs = (zs.take len).map (Value.int .u8)) := hcs
  have HSRC : Hid (∀ j v, cs[j]? = some v → u1.cell? (x.add j) = some v) := hsrc
  have HONE : Hid (∀ v ∈ cs, v.oneCell' = true) := hone
  have HCUR : Hid (u1.heap[W0.heap.size]? = some (.cells cur.toArray 5 (0, 0))) := hcur
  have HL : Hid (cs.length = len) := hcsl
  clear hcs hsrc hone hcur hcsl hown hgrow
  go_wp2_with (refine wpList_copy_splice rfl (.tmp 19) (.tmp 20) 22 22 rfl 5 Try.underlying22 size5e _ _ _ _ _ _ rfl rfl W0.heap.size 0 cur 5 HCUR.out cs (by rw [HL.out]; exact (Nat.min_self _).symm) (fun _ => ⟨rfl, x, rfl, HSRC.out⟩) (by rw [HL.out]; omega) HONE.out W0.heap.size W0 hb1 (Nat.le_refl _) ?_; intro u2 HG hb2)
  obtain ⟨r, y, h1, h2⟩ := both_at u2 W0.heap.size len cur cs zs HG.out HCS.out (by have := HZ.out; omega) HW.out
  have H2 : Hid (Calls Try.prog 11 #[.slice (some ⟨W0.heap.size, 0, none⟩) len len] u2 fun e w' => e = .returned (.tuple #[.int .i32 r, .bool y]) ∧ w' = u2) := h2
  clear h2 HG HCUR HSRC HONE HCS HC HW
  refine h1.mono ?_
  clear h1
  rintro e u3 ⟨rfl, rfl⟩
  go_wp2_with fail
  refine H2.out.mono ?_
  rintro e u4 ⟨rfl, rfl⟩
  go_wp2
  go_ret
  exact ⟨rfl, hb2⟩
end Go.Proofs.Qxb6601329a
