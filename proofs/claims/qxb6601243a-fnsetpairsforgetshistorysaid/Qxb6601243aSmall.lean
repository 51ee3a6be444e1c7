/-
  Rows of NIDs of the call's own: slices.Index, slices.Contains, sameNIDLists, ZZWatched, ZZNode: contracts.
-/
import Derived.Test.Qxb6601243aBase
namespace Go.Proofs.Qxb6601243a
open Go.RowKit

/-- A slice of NIDs of the call's own, read in w: nil, or a whole row at the head of a block from lo on, below hi. -/
def NRow (w : World) (lo hi : Nat) (v : Value) (zs : List Int) : Prop :=
  zs.length ≤ 1048576 ∧ ((v = .slice none 0 0 ∧ zs = []) ∨ ∃ g, v = .slice (some ⟨g, 0, none⟩) zs.length zs.length ∧ lo ≤ g ∧ g < hi ∧ ∀ i, i < zs.length → w.cell? ⟨g, i, none⟩ = some (.int .u32 (zs.getD i 0)))

def hasN (zs : List Int) (x : Int) : Bool := zs.any (fun z => x == z)
theorem hasN_false {zs : List Int} {x : Int} (h : ∀ i, i < zs.length → zs.getD i 0 ≠ x) : hasN zs x = false := by
  unfold hasN
  rw [List.any_eq_false]
  intro z hz
  obtain ⟨i, hi⟩ := List.getElem?_of_mem hz
  have hl : i < zs.length := by
    rcases Nat.lt_or_ge i zs.length with h | h
    · exact h
    · rw [List.getElem?_eq_none h] at hi; cases hi
  have := h i hl
  rw [List.getD_eq_getElem?_getD, hi] at this
  simp at this ⊢
  exact fun e => this e.symm
theorem hasN_true {zs : List Int} {x : Int} (i : Nat) (hi : i < zs.length) (h : zs.getD i 0 = x) : hasN zs x = true := by
  unfold hasN
  rw [List.any_eq_true]
  rw [List.getD_eq_getElem?_getD, List.getElem?_eq_getElem hi] at h
  exact ⟨zs[i], List.getElem_mem hi, by simp at h; simp [h]⟩

set_option maxHeartbeats 400000 in
theorem index_none (a : Option Addr) (c : Nat) (x : Int) (w : World) :
    Calls Try.prog 43 #[.slice a 0 c, .int .u32 x] w fun e w' => e = .returned (.int .i64 (-1)) ∧ w' = w := by
  go_enter Try.func43, Try.ntmps43
  go_wp2
  refine wp_loop_rounds 1 ?_; rw [rounds_succ]
  go_wp2
  go_ret
  exact ⟨rfl, rfl⟩

set_option maxHeartbeats 400000 in
theorem index_row (g c : Nat) (zs : List Int) (x : Int) (w : World) (hl : zs.length ≤ 1048576) (hc : ∀ i, i < zs.length → w.cell? ⟨g, i, none⟩ = some (.int .u32 (zs.getD i 0))) :
    Calls Try.prog 43 #[.slice (some ⟨g, 0, none⟩) zs.length c, .int .u32 x] w fun e w' => ∃ r : Int, e = .returned (.int .i64 r) ∧ decide (0 ≤ r) = hasN zs x ∧ w' = w := by
  have HC : Hid (∀ i, i < zs.length → w.cell? ⟨g, i, none⟩ = some (.int .u32 (zs.getD i 0))) := hc
  clear hc
  obtain ⟨n, hn⟩ : ∃ n, n = zs.length := ⟨_, rfl⟩
  have HN : Hid (n = zs.length) := hn
  rw [← hn] at hl ⊢
  clear hn
  go_enter Try.func43, Try.ntmps43
  go_wp2
  go_loop [8] (fun t => ∃ j : Nat, j ≤ n ∧ t = .int .i64 j ∧ Hid (∀ i, i < j → zs.getD i 0 ≠ x)) (fun t => n - (intOf t).toNat)
  case atStart => exact ⟨0, by omega, rfl, fun i h => absurd h (by omega)⟩
  case round =>
    obtain ⟨j, hj, rfl, HM⟩ := hrel
    by_cases hlt : j < n
    · have hi : (j : Int) < (n : Int) := by omega
      obtain ⟨y, hy⟩ : ∃ y, y = zs.getD j 0 := ⟨_, rfl⟩
      have kj := HC.out j (by rw [← HN.out]; exact hlt)
      rw [← hy] at kj
      have HY : Hid (y = zs.getD j 0) := hy
      clear hy
      go_wp2
      · have h' : (x == y) = true := by assumption
        have h : x = y := beq_iff_eq.1 h'
        go_ret
        exact ⟨_, rfl, by rw [hasN_true j (by rw [← HN.out]; exact hlt) (by rw [h]; exact HY.out.symm)]; exact decide_eq_true (by omega), rfl⟩
      · have h : (x == y) = false := by assumption
        refine ⟨⟨j + 1, by omega, by go_num, fun i hi => ?_⟩, by simp [intOf]; omega⟩
        by_cases e : i = j
        · subst e; rw [← HY.out]; intro e; subst e; simp at h
        · exact HM.out i (by omega)
    · go_wp2
      go_ret
      exact ⟨_, rfl, by rw [hasN_false (fun i hi => HM.out i (by rw [← HN.out] at hi; omega))]; rfl, rfl⟩

set_option maxHeartbeats 400000 in
theorem contains_any (v : Value) (zs : List Int) (x : Int) (w : World) (lo hi : Nat) (h : NRow w lo hi v zs) :
    Calls Try.prog 41 #[v, .int .u32 x] w fun e w' => e = .returned (.bool (hasN zs x)) ∧ w' = w := by
  obtain ⟨hl, ⟨rfl, rfl⟩ | ⟨g, rfl, _, _, hc⟩⟩ := h
  · go_enter Try.func41, Try.ntmps41
    go_wp2_with (go_at_call 43; refine (index_none _ _ _ _).mono ?_; rintro e u ⟨rfl, rfl⟩)
    go_ret
    exact ⟨rfl, rfl⟩
  · have HI : Hid (Calls Try.prog 43 #[.slice (some ⟨g, 0, none⟩) zs.length zs.length, .int .u32 x] w fun e w' => ∃ r : Int, e = .returned (.int .i64 r) ∧ decide (0 ≤ r) = hasN zs x ∧ w' = w) := index_row g zs.length zs x w hl hc
    clear hc
    go_enter Try.func41, Try.ntmps41
    go_wp2_with fail
    refine HI.out.mono ?_
    rintro e u ⟨r, rfl, hr, rfl⟩
    go_wp2
    go_ret
    exact ⟨rfl, rfl⟩

set_option maxHeartbeats 400000 in
/-- sameNIDLists of a row and itself. -/
theorem same_any (v : Value) (zs : List Int) (w : World) (lo hi : Nat) (h : NRow w lo hi v zs) :
    Calls Try.prog 35 #[v, v] w fun e w' => e = .returned (.bool true) ∧ ∃ n, w' = w.drewN n := by
  obtain ⟨hl, ⟨rfl, rfl⟩ | ⟨g, rfl, _, _, hc⟩⟩ := h
  · have hne := fun w => Lib.run_eql_slice_nil (P := Try.prog) w 40 39 none 0 0 0 0 Try.underlying40
    go_enter Try.func35, Try.ntmps35
    go_wp2
    refine wp_loop_rounds 1 ?_; rw [rounds_succ]
    go_wp2
    go_ret
    exact ⟨rfl, 0, rfl⟩
  · have HC : Hid (∀ i, i < zs.length → w.cell? ⟨g, i, none⟩ = some (.int .u32 (zs.getD i 0))) := hc
    clear hc
    obtain ⟨n, hn⟩ : ∃ n, n = zs.length := ⟨_, rfl⟩
    have HN : Hid (n = zs.length) := hn
    rw [← hn] at hl ⊢
    clear hn
    have hne := fun w => Lib.run_eql_slice_nil (P := Try.prog) w 40 39 (some ⟨g, 0, none⟩) n n 0 0 Try.underlying40
    go_enter Try.func35, Try.ntmps35
    go_wp2
    go_loopw [5] (fun t w1 => ∃ j : Nat, j ≤ n ∧ t = .int .i64 j ∧ ∃ q, w1 = w.drewN q) (fun t _ => n - (intOf t).toNat)
    case atStart => exact ⟨0, by omega, rfl, 0, rfl⟩
    case round =>
      obtain ⟨j, hj, rfl, q, rfl⟩ := hrel
      by_cases hlt : j < n
      · have hi : (j : Int) < (n : Int) := by omega
        obtain ⟨y, hy⟩ : ∃ y, y = zs.getD j 0 := ⟨_, rfl⟩
        have kj := HC.out j (by rw [← HN.out]; exact hlt)
        rw [← hy] at kj
        clear hy
        go_wp2
        go_quiet (fail)
        go_wp2
        exact ⟨⟨j + 1, by omega, by go_num, _, rfl⟩, by simp [intOf]; omega⟩
      · go_wp2
        go_ret
        exact ⟨rfl, q, rfl⟩

/-- A new Node's cells: its id; all else the zero value. -/
def nodeCells (id : Int) : Array Value :=
  #[.int .u32 id, .int .u32 0, .slice none 0 0, .slice none 0 0, .int .i64 0, .int .i64 0, .bool false, .slice none 0 0, .map none, .map none, .slice none 0 0, .map none, .map none, .bool false, .bool false, .slice none 0 0,
    .int .u8 0, .int .u32 0, .int .i64 0, .int .i64 0, .bool false, .slice none 0 0, .slice none 0 0, .slice none 0 0, .bool false, .int .u32 0, .int .u32 0, .bool false, .bool false, .map none, .slice none 0 0, .map none,
    .map none, .map none, .map none, .int .u8 0, .int .u32 0, .int .i64 0, .int .i64 0, .bool false, .slice none 0 0, .slice none 0 0, .slice none 0 0, .bool false, .int .u32 0, .int .u32 0, .int .i64 0, .map none, .int .i64 0]

set_option maxHeartbeats 400000 in
theorem node_any (id : Int) (w : World) :
    Calls Try.prog 23 #[.int .u32 id, .slice none 0 0, .map none] w fun e w' => e = .returned (.pointer (some ⟨w.heap.size, 0, none⟩)) ∧ w' = w.alloc (.cells (nodeCells id) 93) := by
  go_enter Try.func23, Try.ntmps23
  go_wp2
  go_ret
  exact ⟨rfl, rfl⟩

/-- What is known of a Node behind a pointer: its id, the two fields that SetPairs writes. -/
structure NodeAt (w : World) (nb : Nat) (id : Int) (m : Option Nat) : Prop where
  id : w.cell? ⟨nb, 0, none⟩ = some (.int .u32 id)
  prs : ∃ p, w.cell? ⟨nb, 30, none⟩ = some p
  map : w.cell? ⟨nb, 31, none⟩ = some (.map m)
  f30 : w.frozen? ⟨nb, 30, none⟩ = false
  f31 : w.frozen? ⟨nb, 31, none⟩ = false

theorem cell_of_heap {w : World} {b : Nat} {cs : Array Value} {t : TypeId} {fr : Nat × Nat} (h : w.heap[b]? = some (.cells cs t fr)) (i : Nat) : w.cell? ⟨b, i, none⟩ = cs[i]? := by
  unfold World.cell?
  rw [h]
  rfl
theorem frozen_of_heap {w : World} {b : Nat} {cs : Array Value} {t : TypeId} (h : w.heap[b]? = some (.cells cs t (0, 0))) (i : Nat) : w.frozen? ⟨b, i, none⟩ = false := by
  unfold World.frozen?
  rw [h]
  simp
theorem nodeAt_new (w : World) (id : Int) : NodeAt (w.alloc (.cells (nodeCells id) 93)) w.heap.size id none := by
  have h : (w.alloc (.cells (nodeCells id) 93)).heap[w.heap.size]? = some (.cells (nodeCells id) 93 (0, 0)) := by
    show (w.heap.push _)[w.heap.size]? = _
    simp
  exact ⟨by rw [cell_of_heap h]; rfl, ⟨.slice none 0 0, by rw [cell_of_heap h]; rfl⟩, by rw [cell_of_heap h]; rfl, frozen_of_heap h 30, frozen_of_heap h 31⟩

set_option maxHeartbeats 400000 in
theorem watched_any (nb : Nat) (m : Option Nat) (w : World) (h : w.cell? ⟨nb, 31, none⟩ = some (.map m)) :
    Calls Try.prog 31 #[.pointer (some ⟨nb, 0, none⟩)] w fun e w' => e = .returned (.map m) ∧ w' = w := by
  go_enter Try.func31, Try.ntmps31
  go_wp2
  go_ret
  exact ⟨rfl, rfl⟩
end Go.Proofs.Qxb6601243a
