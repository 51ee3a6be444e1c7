/-
  'toNIDs': its contract.
-/
import Derived.Test.Qxb6601243aSmall
import Derived.OwnWalk
namespace Go.Proofs.Qxb6601243a
open Go.RowKit

theorem info39 : (Try.prog.info? 39).map (fun i => (i.zero, i.size, i.bytes)) = some (some (.int .u32 0), 1, 4) := by kernel_rfl

def cellsN (zs : List Int) : List Value := zs.map (Value.int .u32)
/-- Block g of w is the row of these NIDs. -/
def RowAt (w : World) (g : Nat) (zs : List Int) : Prop := w.heap[g]? = some (.cells (cellsN zs).toArray 39 (0, 0))
theorem RowAt.cell {w : World} {g : Nat} {zs : List Int} (h : RowAt w g zs) (i : Nat) (hi : i < zs.length) : w.cell? ⟨g, i, none⟩ = some (.int .u32 (zs.getD i 0)) := by
  rw [cell_of_heap h]
  simp only [cellsN, List.getElem?_toArray, List.getElem?_map]
  rw [List.getElem?_eq_getElem hi, List.getD_eq_getElem?_getD, List.getElem?_eq_getElem hi]
  rfl
theorem RowAt.frozen {w : World} {g : Nat} {zs : List Int} (h : RowAt w g zs) (i : Nat) : w.frozen? ⟨g, i, none⟩ = false := frozen_of_heap h i
theorem RowAt.set {w : World} {g : Nat} {zs : List Int} (h : RowAt w g zs) (i : Nat) (y : Int) : RowAt (w.setCell ⟨g, i, none⟩ (.int .u32 y)) g (zs.set i y) := by
  have := heap_setCell_same w g i _ 39 (.int .u32 y) h
  unfold RowAt
  rw [this]
  simp [cellsN]
theorem RowAt.lt {w : World} {g : Nat} {zs : List Int} (h : RowAt w g zs) : g < w.heap.size := (Array.getElem?_eq_some_iff.1 h).1
theorem rowAt_made {w : World} {b n : Nat} (h : w.ownsRow b 39 1 (.slice (some ⟨b, 0, none⟩) n n) n (madeCells #[.int .u32 0] n).toList) : RowAt w b (List.replicate n 0) := by
  rcases h.2 with ⟨e, _⟩ | ⟨g, cap, cur, e, _, hg, _, _, hsz, ht⟩
  · cases e
  · cases e
    unfold RowAt
    rw [hg]
    have hs : cur.size = n := by simpa using hsz
    have : cur.toList = cellsN (List.replicate n 0) := by
      rw [List.take_of_length_le (by simp [hs])] at ht
      rw [ht]
      simp [cellsN, madeCells, Nat.mod_one, List.map_const']
    rw [← this]

/-- The row as the contracts above want it. -/
theorem RowAt.nrow {w : World} {g lo hi : Nat} {zs : List Int} (h : RowAt w g zs) (hl : zs.length ≤ 1048576) (h1 : lo ≤ g) (h2 : g < hi) : NRow w lo hi (.slice (some ⟨g, 0, none⟩) zs.length zs.length) zs :=
  ⟨hl, .inr ⟨g, rfl, h1, h2, fun i hi => h.cell i hi⟩⟩

set_option maxHeartbeats 400000 in
theorem nids_nil (w : World) :
    Calls Try.prog 28 #[.slice none 0 0] w fun e w' => e = .returned (.slice none 0 0) ∧ w' = w := by
  have hne := fun w => Lib.run_eql_slice_nil (P := Try.prog) w 24 23 none 0 0 0 0 Try.underlying24
  go_enter Try.func28, Try.ntmps28
  go_wp2
  go_ret
  exact ⟨rfl, rfl⟩

set_option maxHeartbeats 1000000 in
theorem nids_row (x : Addr) (n c : Nat) (z : Nat → Int) (w : World) (hn : n ≤ 1048576) (hz : 0 < n → ∃ b o, x = ⟨b, o, none⟩ ∧ b < w.heap.size ∧ ∀ i, i < n → w.cell? ⟨b, o + i, none⟩ = some (.int .u32 (z i))) :
    Calls Try.prog 28 #[.slice (some x) n c] w fun e w' => ∃ zs, e = .returned (.slice (some ⟨w.heap.size, 0, none⟩) n n) ∧ zs.length = n ∧ RowAt w' w.heap.size zs ∧ Below w.heap.size w w' := by
  have hne := fun w => Lib.run_eql_slice_nil (P := Try.prog) w 24 23 (some x) n c 0 0 Try.underlying24
  have hm : n ≤ maxLen := by unfold maxLen; omega
  obtain ⟨i0, hi, hq0, hq1, hq2⟩ := info_parts info39
  by_cases h0 : 0 < n
  · obtain ⟨b, o, rfl, hb, hc⟩ := hz h0
    have HC : Hid (∀ i, i < n → w.cell? ⟨b, o + i, none⟩ = some (.int .u32 (z i))) := hc
    clear hc
    go_enter Try.func28, Try.ntmps28
    go_wp2_with (at_make; refine wpList_make_full _ rfl _ _ 40 rfl w.heap.size 39 i0 (.int .u32 0) 1 Try.underlying40 hi hq0 hq1 _ _ _ _ n rfl rfl rfl rfl ?_ hm (Nat.le_refl _) ?_)
    · rw [hq2]; omega
    intro u1 hown hgrow
    have hr := rowAt_made hown
    have hb1 : Below w.heap.size w u1 := (Below.refl _ _).grown hgrow (Nat.le_refl _) (fun k e => by cases e)
    clear hown hgrow
    have hl0 : (List.replicate n (0 : Int)).length = n := by simp
    generalize List.replicate n (0 : Int) = zs0 at hr hl0
    go_wp2
    go_loopw [4] (fun t w1 => ∃ (j : Nat) (zs : List Int), j ≤ n ∧ t = .int .i64 j ∧ Hid (zs.length = n) ∧ Hid (RowAt w1 w.heap.size zs) ∧ Hid (Below w.heap.size w w1)) (fun t _ => n - (intOf t).toNat)
    case atStart => exact ⟨0, zs0, by omega, rfl, hl0, hr, hb1⟩
    case round =>
      clear hr hb1
      obtain ⟨j, zs, hj, rfl, HL, HR, HB⟩ := hrel
      by_cases hlt : j < n
      · have hij : (j : Int) < (n : Int) := by omega
        have kj : wr.cell? ⟨b, o + j, none⟩ = some (.int .u32 (z j)) := (HB.out.cell (p := ⟨b, o + j, none⟩) hb).trans (HC.out j hlt)
        have gj := HR.out.cell j (by rw [HL.out]; exact hlt)
        have fj := HR.out.frozen j
        go_wp2
        exact ⟨⟨j + 1, zs.set j (z j), by omega, by go_num, (List.length_set ..).trans HL.out, HR.out.set j _, HB.out.setCell (Nat.le_refl _) _⟩, by simp [intOf]; omega⟩
      · go_wp2
        go_ret
        exact ⟨zs, rfl, HL.out, HR.out, HB.out⟩
  · obtain rfl : n = 0 := by omega
    go_enter Try.func28, Try.ntmps28
    go_wp2_with (at_make; refine wpList_make_full _ rfl _ _ 40 rfl w.heap.size 39 i0 (.int .u32 0) 1 Try.underlying40 hi hq0 hq1 _ _ _ _ 0 rfl rfl rfl rfl ?_ hm (Nat.le_refl _) ?_)
    · simp
    intro u1 hown hgrow
    have hr := rowAt_made hown
    have hb1 : Below w.heap.size w u1 := (Below.refl _ _).grown hgrow (Nat.le_refl _) (fun k e => by cases e)
    clear hown hgrow
    have HR : Hid (RowAt u1 w.heap.size (List.replicate 0 0)) := hr
    have HB : Hid (Below w.heap.size w u1) := hb1
    clear hr hb1
    go_wp2
    refine wp_loop_rounds 1 ?_; rw [rounds_succ]
    go_wp2
    go_ret
    exact ⟨[], rfl, rfl, HR.out, HB.out⟩

theorem cell_lt {w : World} {a : Addr} {v : Value} (h : w.cell? a = some v) : a.block < w.heap.size := by
  rcases Nat.lt_or_ge a.block w.heap.size with h1 | h1
  · exact h1
  · unfold World.cell? at h
    rw [Array.getElem?_eq_none h1] at h
    cases h

/-- 'toNIDs', of whatever slice that can be read. -/
theorem nids_any (a : Option Addr) (n c : Nat) (z : Nat → Int) (w : World) (hn : n ≤ 1048576) (hz : URow w a n z) (hc : a = none → c = 0) :
    Calls Try.prog 28 #[.slice a n c] w fun e w' => ∃ v zs, e = .returned v ∧ (∃ p q r, v = .slice p q r) ∧ NRow w' w.heap.size w'.heap.size v zs ∧ Below w.heap.size w w' := by
  cases a with
  | none =>
    obtain rfl := hz.1 rfl
    obtain rfl := hc rfl
    refine (nids_nil w).mono ?_
    rintro e w' ⟨rfl, rfl⟩
    exact ⟨_, [], rfl, ⟨_, _, _, rfl⟩, ⟨by simp, .inl ⟨rfl, rfl⟩⟩, Below.refl _ _⟩
  | some x =>
    refine (nids_row x n c z w hn (fun h0 => ?_)).mono ?_
    · obtain ⟨b, o, e, hc⟩ := hz.2 h0
      exact ⟨b, o, Option.some.inj e, cell_lt (hc 0 h0), hc⟩
    · rintro e w' ⟨zs, rfl, rfl, hr, hb⟩
      exact ⟨_, zs, rfl, ⟨_, _, _, rfl⟩, hr.nrow hn (Nat.le_refl _) hr.lt, hb⟩
end Go.Proofs.Qxb6601243a
