/-
  'toPairs': its contract.
-/
import Derived.Test.Qxb6601243aNids
namespace Go.Proofs.Qxb6601243a
open Go.RowKit

theorem info60 : (Try.prog.info? 60).map (fun i => (i.zero, i.size, i.bytes)) = some (some (.agg #[.int .u32 0, .int .u32 0, .slice none 0 0, .slice none 0 0, .slice none 0 0, .slice none 0 0, .slice none 0 0]), 7, 128) := by kernel_rfl

/-- Block g of w is a row of elements of Pair: these cells. -/
def BlockAt (w : World) (g : Nat) (cs : List Value) : Prop := w.heap[g]? = some (.cells cs.toArray 60 (0, 0))

theorem NRow.up {w w' : World} {lo hi hi' : Nat} {v : Value} {zs : List Int} (h : NRow w lo hi v zs) (hh : hi ≤ hi') (hk : ∀ k, lo ≤ k → k < hi → w'.heap[k]? = w.heap[k]?) : NRow w' lo hi' v zs := by
  obtain ⟨hl, h | ⟨g, e, h1, h2, hc⟩⟩ := h
  · exact ⟨hl, .inl h⟩
  · refine ⟨hl, .inr ⟨g, e, h1, by omega, fun i hi => ?_⟩⟩
    have := hc i hi
    unfold World.cell? at this ⊢
    rw [hk g h1 h2]
    exact this
theorem NRow.down {w : World} {lo lo' hi : Nat} {v : Value} {zs : List Int} (h : NRow w lo hi v zs) (hh : lo' ≤ lo) : NRow w lo' hi v zs := by
  obtain ⟨hl, h | ⟨g, e, h1, h2, hc⟩⟩ := h
  · exact ⟨hl, .inl h⟩
  · exact ⟨hl, .inr ⟨g, e, by omega, h2, hc⟩⟩
theorem nrow_nil (w : World) (lo hi : Nat) : NRow w lo hi (.slice none 0 0) [] := ⟨by simp, .inl ⟨rfl, rfl⟩⟩

/-- A value that is a slice's, and reads as a row of NIDs in [lo, hi). -/
def GoodV (w : World) (lo hi : Nat) (v : Value) : Prop := (∃ p q r, v = .slice p q r) ∧ ∃ zs, NRow w lo hi v zs
theorem GoodV.up {w w' : World} {lo hi hi' : Nat} {v : Value} (h : GoodV w lo hi v) (hh : hi ≤ hi') (hk : ∀ k, lo ≤ k → k < hi → w'.heap[k]? = w.heap[k]?) : GoodV w' lo hi' v :=
  ⟨h.1, let ⟨zs, hz⟩ := h.2; ⟨zs, hz.up hh hk⟩⟩
theorem goodV_nil (w : World) (lo hi : Nat) : GoodV w lo hi (.slice none 0 0) := ⟨⟨_, _, _, rfl⟩, [], nrow_nil w lo hi⟩
def GoodH (v : Value) : Prop := ∃ h : Int, v = .int .u32 h ∧ 0 ≤ h ∧ h ≤ 4294967295

/-- Each of n elements: two heads, five slices that are good. -/
structure GoodPairs (w : World) (lo hi n : Nat) (cs : List Value) : Prop where
  len : cs.length = n * 7
  head : ∀ p, p < n → ∀ i, i < 2 → ∃ v, cs[p * 7 + i]? = some v ∧ GoodH v
  sl : ∀ p, p < n → ∀ q, q < 5 → ∃ v, cs[p * 7 + (2 + q)]? = some v ∧ GoodV w lo hi v

/-- The element that is being built, at block Q. -/
structure Q7 (wr W : World) (Q : Nat) (h0 h1 : Int) (v : Nat → Value) : Prop where
  blk : W.heap[Q]? = some (.cells #[.int .u32 h0, .int .u32 h1, v 0, v 1, v 2, v 3, v 4] 60 (0, 0))
  bel : Below Q wr W
  ok : ∀ q, q < 5 → GoodV W (Q + 1) W.heap.size (v q)
theorem Q7.lt {wr W : World} {Q : Nat} {h0 h1 : Int} {v : Nat → Value} (h : Q7 wr W Q h0 h1 v) : Q < W.heap.size := (Array.getElem?_eq_some_iff.1 h.blk).1
def upd (v : Nat → Value) (k : Nat) (x : Value) : Nat → Value := fun i => if i = k then x else v i

theorem Q7.step {wr W u : World} {Q : Nat} {h0 h1 : Int} {v : Nat → Value} (h : Q7 wr W Q h0 h1 v) (k : Nat) (hk : k < 5) (x : Value) (hx : GoodV u W.heap.size u.heap.size x) (hb : Below W.heap.size W u) :
    Q7 wr (u.setCell ⟨Q, 2 + k, none⟩ x) Q h0 h1 (upd v k x) := by
  have hlt := h.lt
  have hblk : u.heap[Q]? = some (.cells #[.int .u32 h0, .int .u32 h1, v 0, v 1, v 2, v 3, v 4] 60 (0, 0)) := (hb.block Q hlt).trans h.blk
  have hset := heap_setCell_same u Q (2 + k) _ 60 x hblk
  have hsz : (u.setCell ⟨Q, 2 + k, none⟩ x).heap.size = u.heap.size := by simp [World.setCell]
  have hoth : ∀ j, j ≠ Q → (u.setCell ⟨Q, 2 + k, none⟩ x).heap[j]? = u.heap[j]? := fun j hj => heap_setCell_other u ⟨Q, 2 + k, none⟩ j x hj
  refine ⟨?_, ?_, fun q hq => ?_⟩
  · rw [hset]
    rcases (by omega : k = 0 ∨ k = 1 ∨ k = 2 ∨ k = 3 ∨ k = 4) with rfl | rfl | rfl | rfl | rfl <;> simp [upd]
  · exact (h.bel.trans (hb.mono (Nat.le_of_lt hlt))).setCell (Nat.le_refl _) _
  · unfold upd
    rw [hsz]
    by_cases e : q = k
    · rw [if_pos e]
      refine ⟨hx.1, ?_⟩
      obtain ⟨zs, hz⟩ := hx.2
      exact ⟨zs, (hz.up (Nat.le_refl _) (fun j h1 _ => hoth j (by omega))).down (by omega)⟩
    · rw [if_neg e]
      exact (h.ok q hq).up hb.size (fun j h1 h2 => (hoth j (by omega)).trans (hb.block j h2))

theorem URow.kept {w w' : World} {a : Option Addr} {n : Nat} {z : Nat → Int} (h : URow w a n z) (hb : Below w.heap.size w w') : URow w' a n z := by
  refine ⟨h.1, fun h0 => ?_⟩
  obtain ⟨b, o, e, hc⟩ := h.2 h0
  exact ⟨b, o, e, fun i hi => (hb.cell (p := ⟨b, o + i, none⟩) (cell_lt (hc i hi))).trans (hc i hi)⟩

theorem made_at (n i : Nat) (hi : i < n * 7) : (madeCells #[.int .u32 0, .int .u32 0, .slice none 0 0, .slice none 0 0, .slice none 0 0, .slice none 0 0, .slice none 0 0] (n * 7))[i]? = some (#[.int .u32 0, .int .u32 0, .slice none 0 0, .slice none 0 0, .slice none 0 0, .slice none 0 0, .slice none 0 0].getD (i % 7) (.int .u32 0)) := by
  unfold madeCells
  rw [Array.getElem?_map, Array.getElem?_range, if_pos hi]
  show some _ = some _
  congr 1
  have h7 : i % 7 < 7 := Nat.mod_lt _ (by omega)
  show #[Value.int .u32 0, .int .u32 0, .slice none 0 0, .slice none 0 0, .slice none 0 0, .slice none 0 0, .slice none 0 0][i % 7]! = _
  generalize i % 7 = r at h7
  rcases (by omega : r = 0 ∨ r = 1 ∨ r = 2 ∨ r = 3 ∨ r = 4 ∨ r = 5 ∨ r = 6) with rfl | rfl | rfl | rfl | rfl | rfl | rfl <;> rfl

theorem pairs_made {w : World} {b n lo hi : Nat} (h : w.ownsRow b 60 7 (.slice (some ⟨b, 0, none⟩) n n) n (madeCells #[.int .u32 0, .int .u32 0, .slice none 0 0, .slice none 0 0, .slice none 0 0, .slice none 0 0, .slice none 0 0] (n * 7)).toList) : ∃ cs, BlockAt w b cs ∧ GoodPairs w lo hi n cs := by
  rcases h.2 with ⟨e, _⟩ | ⟨g, cap, cur, e, _, hg, _, _, hsz, ht⟩
  · cases e
  · cases e
    have hs : cur.size = n * 7 := by simpa using hsz
    rw [List.take_of_length_le (by simp [hs])] at ht
    have hat : ∀ i, i < n * 7 → cur.toList[i]? = some (#[.int .u32 0, .int .u32 0, .slice none 0 0, .slice none 0 0, .slice none 0 0, .slice none 0 0, .slice none 0 0].getD (i % 7) (.int .u32 0)) := fun i hi => by
      rw [ht, Array.getElem?_toList]; exact made_at n i hi
    refine ⟨cur.toList, by unfold BlockAt; rw [hg], by simp [hs], fun p hp i hi => ?_, fun p hp q hq => ?_⟩
    · refine ⟨_, hat _ (by omega), ?_⟩
      rw [show (p * 7 + i) % 7 = i by omega]
      rcases (by omega : i = 0 ∨ i = 1) with rfl | rfl
      · exact ⟨0, rfl, by omega, by omega⟩
      · exact ⟨0, rfl, by omega, by omega⟩
    · refine ⟨_, hat _ (by omega), ?_⟩
      rw [show (p * 7 + (2 + q)) % 7 = 2 + q by omega]
      rcases (by omega : q = 0 ∨ q = 1 ∨ q = 2 ∨ q = 3 ∨ q = 4) with rfl | rfl | rfl | rfl | rfl <;> exact goodV_nil w lo hi

theorem q7_new (wr : World) (h0 h1 : Int) : Q7 wr (wr.alloc (.cells #[.int .u32 h0, .int .u32 h1, .slice none 0 0, .slice none 0 0, .slice none 0 0, .slice none 0 0, .slice none 0 0] 60)) wr.heap.size h0 h1 (fun _ => .slice none 0 0) := by
  refine ⟨?_, (Below.refl _ _).alloc (Nat.le_refl _) _, fun q _ => goodV_nil _ _ _⟩
  show (wr.heap.push _)[wr.heap.size]? = _
  simp
theorem Q7.cellAt {wr W u : World} {Q : Nat} {h0 h1 : Int} {v : Nat → Value} (h : Q7 wr W Q h0 h1 v) (hb : Below W.heap.size W u) (i : Nat) : u.cell? ⟨Q, i, none⟩ = #[.int .u32 h0, .int .u32 h1, v 0, v 1, v 2, v 3, v 4][i]? :=
  cell_of_heap ((hb.block Q h.lt).trans h.blk) i
theorem Q7.frozenAt {wr W u : World} {Q : Nat} {h0 h1 : Int} {v : Nat → Value} (h : Q7 wr W Q h0 h1 v) (hb : Below W.heap.size W u) (i : Nat) : u.frozen? ⟨Q, i, none⟩ = false :=
  frozen_of_heap ((hb.block Q h.lt).trans h.blk) i

theorem BlockAt.lt {w : World} {g : Nat} {cs : List Value} (h : BlockAt w g cs) : g < w.heap.size := (Array.getElem?_eq_some_iff.1 h).1
theorem BlockAt.set {w : World} {g : Nat} {cs : List Value} (h : BlockAt w g cs) (i : Nat) (v : Value) : BlockAt (w.setCell ⟨g, i, none⟩ v) g (cs.set i v) := by
  have := heap_setCell_same w g i _ 60 v h
  unfold BlockAt
  rw [this]
  simp
def put7 (cs : List Value) (k : Nat) (a : Nat → Value) : List Value := ((((((cs.set k (a 0)).set (k + 1) (a 1)).set (k + 2) (a 2)).set (k + 3) (a 3)).set (k + 4) (a 4)).set (k + 5) (a 5)).set (k + 6) (a 6)
theorem put7_len (cs : List Value) (k : Nat) (a : Nat → Value) : (put7 cs k a).length = cs.length := by simp [put7]
theorem put7_out (cs : List Value) (k : Nat) (a : Nat → Value) (i : Nat) (h : i < k ∨ k + 7 ≤ i) : (put7 cs k a)[i]? = cs[i]? := by
  unfold put7
  rw [List.getElem?_set_ne (by omega), List.getElem?_set_ne (by omega), List.getElem?_set_ne (by omega), List.getElem?_set_ne (by omega), List.getElem?_set_ne (by omega), List.getElem?_set_ne (by omega), List.getElem?_set_ne (by omega)]
theorem put7_in (cs : List Value) (k : Nat) (a : Nat → Value) (t : Nat) (ht : t < 7) (h : k + 7 ≤ cs.length) : (put7 cs k a)[k + t]? = some (a t) := by
  unfold put7
  rcases (by omega : t = 0 ∨ t = 1 ∨ t = 2 ∨ t = 3 ∨ t = 4 ∨ t = 5 ∨ t = 6) with rfl | rfl | rfl | rfl | rfl | rfl | rfl
  · rw [List.getElem?_set_ne (by omega), List.getElem?_set_ne (by omega), List.getElem?_set_ne (by omega), List.getElem?_set_ne (by omega), List.getElem?_set_ne (by omega), List.getElem?_set_ne (by omega), Nat.add_zero, List.getElem?_set_self (by omega)]
  · rw [List.getElem?_set_ne (by omega), List.getElem?_set_ne (by omega), List.getElem?_set_ne (by omega), List.getElem?_set_ne (by omega), List.getElem?_set_ne (by omega), List.getElem?_set_self (by simp; omega)]
  · rw [List.getElem?_set_ne (by omega), List.getElem?_set_ne (by omega), List.getElem?_set_ne (by omega), List.getElem?_set_ne (by omega), List.getElem?_set_self (by simp; omega)]
  · rw [List.getElem?_set_ne (by omega), List.getElem?_set_ne (by omega), List.getElem?_set_ne (by omega), List.getElem?_set_self (by simp; omega)]
  · rw [List.getElem?_set_ne (by omega), List.getElem?_set_ne (by omega), List.getElem?_set_self (by simp; omega)]
  · rw [List.getElem?_set_ne (by omega), List.getElem?_set_self (by simp; omega)]
  · rw [List.getElem?_set_self (by simp; omega)]

/-- The element's seven cells. -/
def seven (h0 h1 : Int) (v : Nat → Value) : Nat → Value
  | 0 => .int .u32 h0
  | 1 => .int .u32 h1
  | i + 2 => v i
/-- 'out[p] = q': what the round leaves. -/
theorem round_end {w0 wr X : World} {B n j : Nat} {cs : List Value} {h0 h1 : Int} {v : Nat → Value} (hj : j < n) (b0 : 0 ≤ h0 ∧ h0 ≤ 4294967295) (b1 : 0 ≤ h1 ∧ h1 ≤ 4294967295)
    (hK : BlockAt wr B cs) (hG : GoodPairs wr (B + 1) wr.heap.size n cs) (hb : Below B w0 wr) (h7 : Q7 wr X wr.heap.size h0 h1 v) {Y : World}
    (hY : Y = ((((((X.setCell ⟨B, j * 7, none⟩ (.int .u32 h0)).setCell ⟨B, j * 7 + 1, none⟩ (.int .u32 h1)).setCell ⟨B, j * 7 + 2, none⟩ (v 0)).setCell ⟨B, j * 7 + 3, none⟩ (v 1)).setCell ⟨B, j * 7 + 4, none⟩ (v 2)).setCell ⟨B, j * 7 + 5, none⟩ (v 3)).setCell ⟨B, j * 7 + 6, none⟩ (v 4)) :
    ∃ cs', BlockAt Y B cs' ∧ GoodPairs Y (B + 1) Y.heap.size n cs' ∧ Below B w0 Y := by
  have hBQ := hK.lt
  have hX : BlockAt X B cs := (h7.bel.block _ hBQ).trans hK
  have hK' : BlockAt Y B (put7 cs (j * 7) (seven h0 h1 v)) := by
    rw [hY]
    exact ((((((hX.set (j * 7) (.int .u32 h0)).set (j * 7 + 1) (.int .u32 h1)).set (j * 7 + 2) (v 0)).set (j * 7 + 3) (v 1)).set (j * 7 + 4) (v 2)).set (j * 7 + 5) (v 3)).set (j * 7 + 6) (v 4)
  have hoth : ∀ k, k ≠ B → Y.heap[k]? = X.heap[k]? := fun k hk => by
    rw [hY]
    rw [heap_setCell_other _ _ _ _ hk, heap_setCell_other _ _ _ _ hk, heap_setCell_other _ _ _ _ hk, heap_setCell_other _ _ _ _ hk, heap_setCell_other _ _ _ _ hk, heap_setCell_other _ _ _ _ hk, heap_setCell_other _ _ _ _ hk]
  have hsz : Y.heap.size = X.heap.size := by rw [hY]; simp [World.setCell]
  have hBX : Below B w0 X := hb.trans (h7.bel.mono (Nat.le_of_lt hBQ))
  have hcl : cs.length = n * 7 := hG.len
  refine ⟨_, hK', ⟨by rw [put7_len]; exact hcl, fun p hp i hi => ?_, fun p hp q hq => ?_⟩, ?_⟩
  · by_cases e : p = j
    · subst e
      rw [put7_in cs _ _ i (by omega) (by omega)]
      rcases (by omega : i = 0 ∨ i = 1) with rfl | rfl
      · exact ⟨_, rfl, h0, rfl, b0⟩
      · exact ⟨_, rfl, h1, rfl, b1⟩
    · rw [put7_out cs _ _ _ (by omega)]
      exact hG.head p hp i hi
  · by_cases e : p = j
    · subst e
      rw [put7_in cs _ _ (2 + q) (by omega) (by omega)]
      refine ⟨_, rfl, ?_⟩
      have hok : GoodV Y (B + 1) Y.heap.size (v q) := by
        obtain ⟨hs, zs, hz⟩ := h7.ok q hq
        exact ⟨hs, zs, (hz.up (by rw [hsz]; exact Nat.le_refl _) (fun k h1 _ => hoth k (by omega))).down (by omega)⟩
      rw [Nat.add_comm 2 q]
      exact hok
    · rw [put7_out cs _ _ _ (by omega)]
      obtain ⟨x, hx, hg⟩ := hG.sl p hp q hq
      exact ⟨x, hx, hg.up (by rw [hsz]; exact h7.bel.size) (fun k h1 h2 => (hoth k (by omega)).trans (h7.bel.block k h2))⟩
  · rw [hY]
    exact (((((((hBX.setCell (Nat.le_refl _) _).setCell (Nat.le_refl _) _).setCell (Nat.le_refl _) _).setCell (Nat.le_refl _) _).setCell (Nat.le_refl _) _).setCell (Nat.le_refl _) _).setCell (Nat.le_refl _) _)

set_option maxHeartbeats 4000000 in
theorem toPairs_row (x : Addr) (n c : Nat) (hd : Nat → Nat → Int) (sa : Nat → Nat → Option Addr) (sn sc : Nat → Nat → Nat) (z : Nat → Nat → Nat → Int) (w : World) (hn : n ≤ 1048576)
    (hz : 0 < n → ∃ b o, x = ⟨b, o, none⟩ ∧ b < w.heap.size ∧ ZPs w b o n hd sa sn sc z ∧ ∀ p, p < n → ∀ q, q < 5 → sn p q ≤ 1048576) :
    Calls Try.prog 24 #[.slice (some x) n c] w fun e w' => ∃ cs, e = .returned (.slice (some ⟨w.heap.size, 0, none⟩) n n) ∧ BlockAt w' w.heap.size cs ∧ GoodPairs w' (w.heap.size + 1) w'.heap.size n cs ∧ Below w.heap.size w w' := by
  have hne := fun w => Lib.run_eql_slice_nil (P := Try.prog) w 49 77 (some x) n c 0 0 Try.underlying49
  have hm : n ≤ maxLen := by unfold maxLen; omega
  obtain ⟨i0, hi, hq0, hq1, hq2⟩ := info_parts info60
  by_cases h0 : 0 < n
  · obtain ⟨b, o, rfl, hb, Z, hsm⟩ := hz h0
    have HS : Hid (∀ p, p < n → ∀ q, q < 5 → sn p q ≤ 1048576) := hsm
    clear hsm hz
    go_enter Try.func24, Try.ntmps24
    go_wp2_with (at_make; refine wpList_make_full _ rfl _ _ 54 rfl w.heap.size 60 i0 (.agg #[.int .u32 0, .int .u32 0, .slice none 0 0, .slice none 0 0, .slice none 0 0, .slice none 0 0, .slice none 0 0]) 7 Try.underlying54 hi hq0 hq1 _ _ _ _ n rfl rfl rfl rfl ?_ hm (Nat.le_refl _) ?_)
    · rw [hq2]; omega
    intro u1 hown hgrow
    obtain ⟨cs0, hblk0, hgp0⟩ := pairs_made (lo := w.heap.size + 1) (hi := u1.heap.size) hown
    have hb1 : Below w.heap.size w u1 := (Below.refl _ _).grown hgrow (Nat.le_refl _) (fun k e => by cases e)
    clear hown hgrow
    go_wp2
    go_loopw [4] (fun t w1 => ∃ (j : Nat) (cs : List Value), j ≤ n ∧ t = .int .i64 j ∧ Hid (BlockAt w1 w.heap.size cs) ∧ Hid (GoodPairs w1 (w.heap.size + 1) w1.heap.size n cs) ∧ Hid (Below w.heap.size w w1)) (fun t _ => n - (intOf t).toNat)
    case atStart => exact ⟨0, cs0, by omega, rfl, hblk0, hgp0, hb1⟩
    case round =>
      clear hblk0 hgp0 hb1
      obtain ⟨j, cs, hj, rfl, HK, HG, HB⟩ := hrel
      by_cases hlt : j < n
      · have hij : (j : Int) < (n : Int) := by omega
        have kh0 : wr.cell? ⟨b, o + j * 7, none⟩ = some (.int .u32 (hd j 0)) := (HB.out.cell (p := ⟨b, o + j * 7, none⟩) hb).trans (Z.head j hlt 0 (by omega))
        have kh1 : wr.cell? ⟨b, o + j * 7 + 1, none⟩ = some (.int .u32 (hd j 1)) := (HB.out.cell (p := ⟨b, o + j * 7 + 1, none⟩) hb).trans (Z.head j hlt 1 (by omega))
        have k0 : wr.cell? ⟨b, o + j * 7 + 2, none⟩ = some (.slice (sa j 0) (sn j 0) (sc j 0)) := (HB.out.cell (p := ⟨b, o + j * 7 + 2, none⟩) hb).trans (Z.sl j hlt 0 (by omega))
        have k1 : wr.cell? ⟨b, o + j * 7 + 3, none⟩ = some (.slice (sa j 1) (sn j 1) (sc j 1)) := (HB.out.cell (p := ⟨b, o + j * 7 + 3, none⟩) hb).trans (Z.sl j hlt 1 (by omega))
        have k2 : wr.cell? ⟨b, o + j * 7 + 4, none⟩ = some (.slice (sa j 2) (sn j 2) (sc j 2)) := (HB.out.cell (p := ⟨b, o + j * 7 + 4, none⟩) hb).trans (Z.sl j hlt 2 (by omega))
        have k3 : wr.cell? ⟨b, o + j * 7 + 5, none⟩ = some (.slice (sa j 3) (sn j 3) (sc j 3)) := (HB.out.cell (p := ⟨b, o + j * 7 + 5, none⟩) hb).trans (Z.sl j hlt 3 (by omega))
        have k4 : wr.cell? ⟨b, o + j * 7 + 6, none⟩ = some (.slice (sa j 4) (sn j 4) (sc j 4)) := (HB.out.cell (p := ⟨b, o + j * 7 + 6, none⟩) hb).trans (Z.sl j hlt 4 (by omega))
        have hbW : b < wr.heap.size := Nat.lt_of_lt_of_le hb HB.out.size
        go_wp2_with fail
        have h7_0 := q7_new wr (hd j 0) (hd j 1)
        generalize wr.alloc (.cells #[.int .u32 (hd j 0), .int .u32 (hd j 1), .slice none 0 0, .slice none 0 0, .slice none 0 0, .slice none 0 0, .slice none 0 0] 60) = X0 at h7_0 ⊢
        refine (nids_any (sa j 0) (sn j 0) (sc j 0) (z j 0) _ (HS.out j hlt 0 (by omega)) ((Z.row j hlt 0 (by omega)).kept (HB.out.trans (h7_0.bel.mono HB.out.size))) (Z.nil j hlt 0 (by omega))).mono ?_
        rintro e y0 ⟨v0, zs0, rfl, ⟨p0, q0, r0, rfl⟩, hnr0, hb0⟩
        have c0 := h7_0.cellAt hb0 2
        have f0 := h7_0.frozenAt hb0 2
        simp at c0
        have e0 : y0.cell? ⟨b, o + j * 7 + 3, none⟩ = some (.slice (sa j 1) (sn j 1) (sc j 1)) := ((hb0.cell (p := ⟨b, o + j * 7 + 3, none⟩) (Nat.lt_trans hbW h7_0.lt)).trans (h7_0.bel.cell (p := ⟨b, o + j * 7 + 3, none⟩) hbW)).trans k1
        go_wp2_with fail
        have h7_1 : Q7 wr (y0.setCell ⟨wr.heap.size, 2, none⟩ (.slice p0 q0 r0)) wr.heap.size (hd j 0) (hd j 1) _ := h7_0.step 0 (by omega) _ ⟨⟨_, _, _, rfl⟩, zs0, hnr0⟩ hb0
        clear h7_0 hnr0 hb0 c0 f0 e0
        generalize y0.setCell ⟨wr.heap.size, 2, none⟩ (.slice p0 q0 r0) = X1 at h7_1 ⊢
        refine (nids_any (sa j 1) (sn j 1) (sc j 1) (z j 1) _ (HS.out j hlt 1 (by omega)) ((Z.row j hlt 1 (by omega)).kept (HB.out.trans (h7_1.bel.mono HB.out.size))) (Z.nil j hlt 1 (by omega))).mono ?_
        rintro e y1 ⟨v1, zs1, rfl, ⟨p1, q1, r1, rfl⟩, hnr1, hb1⟩
        have c1 := h7_1.cellAt hb1 3
        have f1 := h7_1.frozenAt hb1 3
        simp at c1
        have e1 : y1.cell? ⟨b, o + j * 7 + 4, none⟩ = some (.slice (sa j 2) (sn j 2) (sc j 2)) := ((hb1.cell (p := ⟨b, o + j * 7 + 4, none⟩) (Nat.lt_trans hbW h7_1.lt)).trans (h7_1.bel.cell (p := ⟨b, o + j * 7 + 4, none⟩) hbW)).trans k2
        go_wp2_with fail
        have h7_2 : Q7 wr (y1.setCell ⟨wr.heap.size, 3, none⟩ (.slice p1 q1 r1)) wr.heap.size (hd j 0) (hd j 1) _ := h7_1.step 1 (by omega) _ ⟨⟨_, _, _, rfl⟩, zs1, hnr1⟩ hb1
        clear h7_1 hnr1 hb1 c1 f1 e1
        generalize y1.setCell ⟨wr.heap.size, 3, none⟩ (.slice p1 q1 r1) = X2 at h7_2 ⊢
        refine (nids_any (sa j 2) (sn j 2) (sc j 2) (z j 2) _ (HS.out j hlt 2 (by omega)) ((Z.row j hlt 2 (by omega)).kept (HB.out.trans (h7_2.bel.mono HB.out.size))) (Z.nil j hlt 2 (by omega))).mono ?_
        rintro e y2 ⟨v2, zs2, rfl, ⟨p2, q2, r2, rfl⟩, hnr2, hb2⟩
        have c2 := h7_2.cellAt hb2 4
        have f2 := h7_2.frozenAt hb2 4
        simp at c2
        have e2 : y2.cell? ⟨b, o + j * 7 + 5, none⟩ = some (.slice (sa j 3) (sn j 3) (sc j 3)) := ((hb2.cell (p := ⟨b, o + j * 7 + 5, none⟩) (Nat.lt_trans hbW h7_2.lt)).trans (h7_2.bel.cell (p := ⟨b, o + j * 7 + 5, none⟩) hbW)).trans k3
        go_wp2_with fail
        have h7_3 : Q7 wr (y2.setCell ⟨wr.heap.size, 4, none⟩ (.slice p2 q2 r2)) wr.heap.size (hd j 0) (hd j 1) _ := h7_2.step 2 (by omega) _ ⟨⟨_, _, _, rfl⟩, zs2, hnr2⟩ hb2
        clear h7_2 hnr2 hb2 c2 f2 e2
        generalize y2.setCell ⟨wr.heap.size, 4, none⟩ (.slice p2 q2 r2) = X3 at h7_3 ⊢
        refine (nids_any (sa j 3) (sn j 3) (sc j 3) (z j 3) _ (HS.out j hlt 3 (by omega)) ((Z.row j hlt 3 (by omega)).kept (HB.out.trans (h7_3.bel.mono HB.out.size))) (Z.nil j hlt 3 (by omega))).mono ?_
        rintro e y3 ⟨v3, zs3, rfl, ⟨p3, q3, r3, rfl⟩, hnr3, hb3⟩
        have c3 := h7_3.cellAt hb3 5
        have f3 := h7_3.frozenAt hb3 5
        simp at c3
        have e3 : y3.cell? ⟨b, o + j * 7 + 6, none⟩ = some (.slice (sa j 4) (sn j 4) (sc j 4)) := ((hb3.cell (p := ⟨b, o + j * 7 + 6, none⟩) (Nat.lt_trans hbW h7_3.lt)).trans (h7_3.bel.cell (p := ⟨b, o + j * 7 + 6, none⟩) hbW)).trans k4
        go_wp2_with fail
        have h7_4 : Q7 wr (y3.setCell ⟨wr.heap.size, 5, none⟩ (.slice p3 q3 r3)) wr.heap.size (hd j 0) (hd j 1) _ := h7_3.step 3 (by omega) _ ⟨⟨_, _, _, rfl⟩, zs3, hnr3⟩ hb3
        clear h7_3 hnr3 hb3 c3 f3 e3
        generalize y3.setCell ⟨wr.heap.size, 5, none⟩ (.slice p3 q3 r3) = X4 at h7_4 ⊢
        refine (nids_any (sa j 4) (sn j 4) (sc j 4) (z j 4) _ (HS.out j hlt 4 (by omega)) ((Z.row j hlt 4 (by omega)).kept (HB.out.trans (h7_4.bel.mono HB.out.size))) (Z.nil j hlt 4 (by omega))).mono ?_
        rintro e y4 ⟨v4, zs4, rfl, ⟨p4, q4, r4, rfl⟩, hnr4, hb4⟩
        have c4 := h7_4.cellAt hb4 6
        have f4 := h7_4.frozenAt hb4 6
        have hBQ : w.heap.size < wr.heap.size := BlockAt.lt HK.out
        have hBk : BlockAt y4 w.heap.size cs := ((hb4.block _ (Nat.lt_trans hBQ h7_4.lt)).trans (h7_4.bel.block _ hBQ)).trans HK.out
        clear c4
        have g0 := h7_4.cellAt hb4 0
        simp [upd] at g0
        have g1 := h7_4.cellAt hb4 1
        simp [upd] at g1
        have g2 := h7_4.cellAt hb4 2
        simp [upd] at g2
        have g3 := h7_4.cellAt hb4 3
        simp [upd] at g3
        have g4 := h7_4.cellAt hb4 4
        simp [upd] at g4
        have g5 := h7_4.cellAt hb4 5
        simp [upd] at g5
        have g6 := h7_4.cellAt hb4 6
        simp [upd] at g6
        obtain ⟨x0, hx0, _⟩ := HG.out.head j hlt 0 (by omega)
        have a0 : y4.cell? ⟨w.heap.size, j * 7 + 0, none⟩ = some x0 := (cell_of_heap hBk _).trans (by simpa using hx0)
        have b0 : y4.frozen? ⟨w.heap.size, j * 7 + 0, none⟩ = false := frozen_of_heap hBk _
        clear hx0
        obtain ⟨x1, hx1, _⟩ := HG.out.head j hlt 1 (by omega)
        have a1 : y4.cell? ⟨w.heap.size, j * 7 + 1, none⟩ = some x1 := (cell_of_heap hBk _).trans (by simpa using hx1)
        have b1 : y4.frozen? ⟨w.heap.size, j * 7 + 1, none⟩ = false := frozen_of_heap hBk _
        clear hx1
        obtain ⟨x2, hx2, _⟩ := HG.out.sl j hlt 0 (by omega)
        have a2 : y4.cell? ⟨w.heap.size, j * 7 + 2, none⟩ = some x2 := (cell_of_heap hBk _).trans (by simpa using hx2)
        have b2 : y4.frozen? ⟨w.heap.size, j * 7 + 2, none⟩ = false := frozen_of_heap hBk _
        clear hx2
        obtain ⟨x3, hx3, _⟩ := HG.out.sl j hlt 1 (by omega)
        have a3 : y4.cell? ⟨w.heap.size, j * 7 + 3, none⟩ = some x3 := (cell_of_heap hBk _).trans (by simpa using hx3)
        have b3 : y4.frozen? ⟨w.heap.size, j * 7 + 3, none⟩ = false := frozen_of_heap hBk _
        clear hx3
        obtain ⟨x4, hx4, _⟩ := HG.out.sl j hlt 2 (by omega)
        have a4 : y4.cell? ⟨w.heap.size, j * 7 + 4, none⟩ = some x4 := (cell_of_heap hBk _).trans (by simpa using hx4)
        have b4 : y4.frozen? ⟨w.heap.size, j * 7 + 4, none⟩ = false := frozen_of_heap hBk _
        clear hx4
        obtain ⟨x5, hx5, _⟩ := HG.out.sl j hlt 3 (by omega)
        have a5 : y4.cell? ⟨w.heap.size, j * 7 + 5, none⟩ = some x5 := (cell_of_heap hBk _).trans (by simpa using hx5)
        have b5 : y4.frozen? ⟨w.heap.size, j * 7 + 5, none⟩ = false := frozen_of_heap hBk _
        clear hx5
        obtain ⟨x6, hx6, _⟩ := HG.out.sl j hlt 4 (by omega)
        have a6 : y4.cell? ⟨w.heap.size, j * 7 + 6, none⟩ = some x6 := (cell_of_heap hBk _).trans (by simpa using hx6)
        have b6 : y4.frozen? ⟨w.heap.size, j * 7 + 6, none⟩ = false := frozen_of_heap hBk _
        clear hx6
        simp only [Nat.add_zero] at a0 b0
        have h7_5 : Q7 wr (y4.setCell ⟨wr.heap.size, 6, none⟩ (.slice p4 q4 r4)) wr.heap.size (hd j 0) (hd j 1) _ := h7_4.step 4 (by omega) _ ⟨⟨_, _, _, rfl⟩, zs4, hnr4⟩ hb4
        have H5 : Hid (Q7 wr (y4.setCell ⟨wr.heap.size, 6, none⟩ (.slice p4 q4 r4)) wr.heap.size (hd j 0) (hd j 1) (upd (upd (upd (upd (upd (fun _ => .slice none 0 0) 0 (.slice p0 q0 r0)) 1 (.slice p1 q1 r1)) 2 (.slice p2 q2 r2)) 3 (.slice p3 q3 r3)) 4 (.slice p4 q4 r4))) := h7_5
        clear h7_4 h7_5 hnr4 hb4 hBk
        go_wp2
        obtain ⟨cs', r1, r2, r3⟩ := round_end hlt (Z.bd j 0) (Z.bd j 1) HK.out HG.out HB.out H5.out rfl
        exact ⟨⟨j + 1, cs', by omega, by go_num, r1, r2, r3⟩, by simp [intOf]; omega⟩
      · go_wp2
        go_ret
        exact ⟨cs, rfl, HK.out, HG.out, HB.out⟩
  · obtain rfl : n = 0 := by omega
    clear hz
    go_enter Try.func24, Try.ntmps24
    go_wp2_with (at_make; refine wpList_make_full _ rfl _ _ 54 rfl w.heap.size 60 i0 (.agg #[.int .u32 0, .int .u32 0, .slice none 0 0, .slice none 0 0, .slice none 0 0, .slice none 0 0, .slice none 0 0]) 7 Try.underlying54 hi hq0 hq1 _ _ _ _ 0 rfl rfl rfl rfl ?_ hm (Nat.le_refl _) ?_)
    · simp
    intro u1 hown hgrow
    obtain ⟨cs0, hblk0, hgp0⟩ := pairs_made (n := 0) (lo := w.heap.size + 1) (hi := u1.heap.size) hown
    have hb1 : Below w.heap.size w u1 := (Below.refl _ _).grown hgrow (Nat.le_refl _) (fun k e => by cases e)
    clear hown hgrow
    have HK : Hid (BlockAt u1 w.heap.size cs0) := hblk0
    have HG : Hid (GoodPairs u1 (w.heap.size + 1) u1.heap.size 0 cs0) := hgp0
    have HB : Hid (Below w.heap.size w u1) := hb1
    clear hblk0 hgp0 hb1
    go_wp2
    refine wp_loop_rounds 1 ?_; rw [rounds_succ]
    go_wp2
    go_ret
    exact ⟨cs0, rfl, HK.out, HG.out, HB.out⟩

set_option maxHeartbeats 400000 in
theorem toPairs_nil (w : World) :
    Calls Try.prog 24 #[.slice none 0 0] w fun e w' => e = .returned (.slice none 0 0) ∧ w' = w := by
  have hne := fun w => Lib.run_eql_slice_nil (P := Try.prog) w 49 77 none 0 0 0 0 Try.underlying49
  go_enter Try.func24, Try.ntmps24
  go_wp2
  go_ret
  exact ⟨rfl, rfl⟩
end Go.Proofs.Qxb6601243a
