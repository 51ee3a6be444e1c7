/-
  'FnSetPairsForgetsHistory': the walk.
-/
import Derived.Test.Qxb6601243aLawFacts
namespace Go.Proofs.Qxb6601243a
open Go.RowKit

/-- What the law is told of an argument of type []ZPair, read in W0. -/
def ArgOK (W0 : World) (v : Value) : Prop := ∃ S : Prop,
  (Calls Try.prog 21 #[v] W0 fun e w' => ∃ t : Int, e = .returned (.int .i64 t) ∧ 0 ≤ t ∧ t ≤ 1048577 ∧ (t ≤ 1048576 → S) ∧ w' = W0) ∧
  (S → ∀ w, Below W0.heap.size W0 w → Calls Try.prog 24 #[v] w fun e w' => ∃ pv n cs, e = .returned pv ∧ PV w' w.heap.size w'.heap.size pv n cs ∧ Below w.heap.size w w')

theorem old_alloc (u : World) (o : Obj) (q : Nat) (hq : q < u.heap.size) : (u.alloc o).heap[q]? = u.heap[q]? := by
  show (u.heap.push o)[q]? = _
  rw [Array.getElem?_push, if_neg (by omega)]
theorem size_alloc_le (u : World) (o : Obj) : u.heap.size ≤ (u.alloc o).heap.size := by
  show u.heap.size ≤ (u.heap.push o).size
  rw [Array.size_push]; omega
/-- Where the law stands behind the first 'SetPairs': node B, its map m. -/
structure At3 (W0 : World) (id : Int) (u : World) (m : Option Nat) : Prop where
  node : NodeAt u W0.heap.size id m
  any : AnyMap u m
  bel : Below W0.heap.size W0 u
  pos : ∀ b, m = some b → W0.heap.size ≤ b ∧ b < u.heap.size
theorem at3_new (W0 : World) (id : Int) : At3 W0 id (W0.alloc (.cells (nodeCells id) 93)) none :=
  ⟨nodeAt_new W0 id, .inl rfl, (Below.refl _ _).alloc (Nat.le_refl _) _, fun b e => by cases e⟩
theorem AnyMap.kept {u u' : World} {m : Option Nat} (h : AnyMap u m) (hk : ∀ b, m = some b → u'.heap[b]? = u.heap[b]?) : AnyMap u' m := by
  rcases h with h | ⟨b, k, D, e, es, c, hb, r⟩
  · exact .inl h
  · exact .inr ⟨b, k, D, e, es, c, (hk b e).trans hb, r⟩
theorem At3.below {W0 u u' : World} {id : Int} {m : Option Nat} (h : At3 W0 id u m) (hb : Below u.heap.size u u') : At3 W0 id u' m :=
  ⟨h.node.kept (hb.block _ (cell_lt h.node.id)), h.any.kept (fun b e => hb.block b (h.pos b e).2), h.bel.trans (hb.mono h.bel.size), fun b e => ⟨(h.pos b e).1, Nat.lt_of_lt_of_le (h.pos b e).2 hb.size⟩⟩
theorem At3.set {W0 u u' : World} {id : Int} {m m' : Option Nat} {D : DataW Value} {k : Nat} (h : At3 W0 id u m) (hS : St W0.heap.size id m u u' m' D k) : At3 W0 id u' m' := by
  refine ⟨hS.node, hS.map.any, hS.kept.below h.bel (Nat.le_refl _) (fun b e => (h.pos b e).1) h.bel.size, fun b e => ⟨?_, ?_⟩⟩
  · rcases hS.turn with e' | ⟨_, b', e', hb⟩
    · exact (h.pos b (e'.symm.trans e)).1
    · rw [e] at e'
      cases e'
      exact Nat.le_trans h.bel.size hb
  · have := hS.map
    rw [e] at this
    exact this.lt

/-- Where the law stands behind the second 'SetPairs': the map of node B reads as D; the pairs' value is kept. -/
structure At5 (W0 : World) (id : Int) (u : World) (m : Option Nat) (D : DataW Value) (k lo hi : Nat) (pv : Value) (n : Nat) (cs : List Value) : Prop where
  at3 : At3 W0 id u m
  map : MapIs u m D k
  pv : PV u lo hi pv n cs
  hi : hi ≤ u.heap.size
  same : cont u cs id (2 * n) = D

theorem at5_of {W0 u3 u4 u5 : World} {id : Int} {m3 m5 : Option Nat} {pv : Value} {n : Nat} {cs : List Value} (h3 : At3 W0 id u3 m3) (hb : Below u3.heap.size u3 u4) (hV : PV u4 u3.heap.size u4.heap.size pv n cs)
    (hS : St W0.heap.size id m3 u4 u5 m5 (cont u4 cs id (2 * n)) (2 * n)) : At5 W0 id u5 m5 (cont u4 cs id (2 * n)) (2 * n) u3.heap.size u4.heap.size pv n cs := by
  have h4 := h3.below hb
  have hk : ∀ k, u3.heap.size ≤ k → k < u4.heap.size → u5.heap[k]? = u4.heap[k]? := fun k a b => hS.kept.block k b (by have := cell_lt h3.node.id; simp at this; omega) (fun e => by have := (h3.pos k e.symm).2; omega)
  exact ⟨h4.set hS, hS.map, hV.kept hk, hS.kept.size, hV.sameCont hk id _ (Nat.le_refl _)⟩

/-- Where the law stands behind the third: both maps read as D. -/
structure At7 (W0 : World) (u : World) (nb : Nat) (m5 m7 : Option Nat) (D : DataW Value) (k : Nat) (pvOk : Value → Prop) : Prop where
  c5 : u.cell? ⟨W0.heap.size, 31, none⟩ = some (.map m5)
  c7 : u.cell? ⟨nb, 31, none⟩ = some (.map m7)
  map5 : MapIs u m5 D k
  map7 : MapIs u m7 D k
  bel : Below W0.heap.size W0 u
  found : ∀ hd x, D.atKey (.int .u32 hd) (.held (.slice none 0 0)) = .held x → pvOk x

theorem at7_of {W0 u5 u7 : World} {id : Int} {m5 m7 : Option Nat} {D : DataW Value} {k lo hi : Nat} {pv : Value} {n : Nat} {cs : List Value} (h5 : At5 W0 id u5 m5 D k lo hi pv n cs)
    (hS : St u5.heap.size id none (u5.alloc (.cells (nodeCells id) 93)) u7 m7 (cont (u5.alloc (.cells (nodeCells id) 93)) cs id (2 * n)) k) : At7 W0 u7 u5.heap.size m5 m7 D k (fun x => ∃ l t zs, NRow u7 l t x zs) := by
  have hsz : (u5.alloc (.cells (nodeCells id) 93)).heap.size = u5.heap.size + 1 := by
    show (u5.heap.push _).size = _
    rw [Array.size_push]
  have hold : ∀ q, q < u5.heap.size → (u5.alloc (.cells (nodeCells id) 93)).heap[q]? = u5.heap[q]? := fun q hq => by
    show (u5.heap.push _)[q]? = _
    rw [Array.getElem?_push, if_neg (by omega)]
  have hk : ∀ q, q < u5.heap.size → u7.heap[q]? = u5.heap[q]? := fun q hq => (hS.kept.block q (by omega) (by omega) (fun e => by cases e)).trans (hold q hq)
  have hlt : W0.heap.size < u5.heap.size := by have := cell_lt h5.at3.node.id; simpa using this
  have hsame : cont (u5.alloc (.cells (nodeCells id) 93)) cs id (2 * n) = D := (h5.pv.sameCont (fun q _ b => hold q (by have := h5.hi; omega)) id _ (Nat.le_refl _)).trans h5.same
  have hV7 : PV u7 lo hi pv n cs := h5.pv.kept (fun q _ b => hk q (by have := h5.hi; omega))
  have hm7 := hS.map
  rw [hsame] at hm7
  refine ⟨(h5.at3.node.kept (hk _ hlt)).map, hS.node.map, h5.map.kept (fun b e => hk b (h5.at3.pos b e).2), hm7, ?_, fun hd x hx => ?_⟩
  · exact hS.kept.below (h5.at3.bel.alloc (Nat.le_of_lt hlt) _) (Nat.le_of_lt hlt) (fun b e => by cases e) (by omega)
  · rw [← h5.same] at hx
    exact hV7.found id u5 _ x hx


set_option maxRecDepth 100000 in
set_option maxHeartbeats 2000000 in
theorem law_any (id : Int) (v1 : Value) (a : Option Addr) (n c : Nat) (hn : n ≤ 9223372036854775807) (hd : Nat → Nat → Int) (W0 : World)
    (hr : ∀ p, p < n → ∃ b o, a = some ⟨b, o, none⟩ ∧ b < W0.heap.size ∧ ∀ p i, p < n → i < 2 → W0.cell? ⟨b, o + p * 7 + i, none⟩ = some (.int .u32 (hd p i))) (hbd : ∀ p i, 0 ≤ hd p i ∧ hd p i ≤ 4294967295) (hz : Calls Try.prog 34 #[.int .u32 id, v1, .slice a n c] W0 fun e w' => IsBool e ∧ w' = W0) (A1 : ArgOK W0 v1) (A2 : ArgOK W0 (.slice a n c)) :
    Calls Try.prog 7 #[.int .u32 id, v1, .slice a n c] W0 fun e w' => e = .returned (.bool true) ∧ Below W0.heap.size W0 w' := by
  obtain ⟨S1, hB1, hT1⟩ := A1
  obtain ⟨S2, hB2, hT2⟩ := A2
  have HZ : Hid (Calls Try.prog 34 #[.int .u32 id, v1, (.slice a n c)] W0 fun e w' => IsBool e ∧ w' = W0) := hz
  have HB1 : Hid (Calls Try.prog 21 #[v1] W0 fun e w' => ∃ t : Int, e = .returned (.int .i64 t) ∧ 0 ≤ t ∧ t ≤ 1048577 ∧ (t ≤ 1048576 → S1) ∧ w' = W0) := hB1
  have HB2 : Hid (Calls Try.prog 21 #[(.slice a n c)] W0 fun e w' => ∃ t : Int, e = .returned (.int .i64 t) ∧ 0 ≤ t ∧ t ≤ 1048577 ∧ (t ≤ 1048576 → S2) ∧ w' = W0) := hB2
  have HT1 : Hid (S1 → ∀ w, Below W0.heap.size W0 w → Calls Try.prog 24 #[v1] w fun e w' => ∃ pv n cs, e = .returned pv ∧ PV w' w.heap.size w'.heap.size pv n cs ∧ Below w.heap.size w w') := hT1
  have HT2 : Hid (S2 → ∀ w, Below W0.heap.size W0 w → Calls Try.prog 24 #[(.slice a n c)] w fun e w' => ∃ pv n cs, e = .returned pv ∧ PV w' w.heap.size w'.heap.size pv n cs ∧ Below w.heap.size w w') := hT2
  have HR : Hid (∀ p, p < n → ∃ b o, a = some ⟨b, o, none⟩ ∧ b < W0.heap.size ∧ ∀ p i, p < n → i < 2 → W0.cell? ⟨b, o + p * 7 + i, none⟩ = some (.int .u32 (hd p i))) := hr
  have HBD : Hid (∀ p i, 0 ≤ hd p i ∧ hd p i ≤ 4294967295) := hbd
  clear hz hB1 hB2 hT1 hT2 hr hbd
  go_enter Try.func7, Try.ntmps7
  go_wp2_with fail
  refine HZ.out.mono ?_
  rintro e u ⟨⟨x, rfl⟩, hu⟩
  subst u
  clear HZ
  go_wp2_with fail
  · go_ret
    exact ⟨rfl, Below.refl _ _⟩
  refine HB1.out.mono ?_
  rintro e u ⟨t1, rfl, p1, q1, s1, hu⟩
  subst u
  clear HB1
  have HS1 : Hid (t1 ≤ 1048576 → S1) := s1
  clear s1
  go_wp2_with fail
  refine HB2.out.mono ?_
  rintro e u ⟨t2, rfl, p2, q2, s2, hu⟩
  subst u
  clear HB2
  have HS2 : Hid (t2 ≤ 1048576 → S2) := s2
  clear s2
  go_wp2_with fail
  refine (add_any t1 t2 1 _ p1 p2 (by omega) (by omega) q1).mono ?_
  rintro e u ⟨t3, rfl, p3, q3, s3, hu⟩
  subst u
  have HS3 : Hid (t3 ≤ 1048576 → t1 ≤ 1048576 ∧ t2 ≤ 1048576) := s3
  clear s3
  by_cases hlim : t3 ≤ 1048576
  · obtain ⟨l1, l2⟩ := HS3.out hlim
    have K1 : Hid S1 := HS1.out l1
    have K2 : Hid S2 := HS2.out l2
    go_wp2_with fail
    refine (node_any id _).mono ?_
    rintro e u ⟨rfl, hu⟩
    have H1 : Hid (At3 W0 id u none) := by rw [hu]; exact at3_new W0 id
    clear hu
    go_wp2_with fail
    refine (HT1.out K1.out u H1.out.bel).mono ?_
    rintro e u2 ⟨pv1, n1, cs1, rfl, hV1, hb2⟩
    have H2 : Hid (At3 W0 id u2 none) := H1.out.below hb2
    have HV1 : Hid (PV u2 u.heap.size u2.heap.size pv1 n1 cs1) := hV1
    have hlo : W0.heap.size < u.heap.size := by have := cell_lt H1.out.node.id; simpa using this
    clear hV1 hb2 HT1 K1
    go_wp2_with fail
    refine (set_any W0.heap.size id none u2 pv1 n1 u.heap.size u2.heap.size cs1 H2.out.node (.inl rfl) HV1.out (Nat.le_refl _) (.inl hlo) (fun b e => by cases e)).mono ?_
    rintro e u3 ⟨rfl, m3, hS3⟩
    have H3 : Hid (At3 W0 id u3 m3) := H2.out.set hS3
    clear hS3 HV1 H1 H2 hlo
    go_wp2_with fail
    refine (HT2.out K2.out u3 H3.out.bel).mono ?_
    rintro e u4 ⟨pv2, n2, cs2, rfl, hV2, hb4⟩
    have hlo : W0.heap.size < u3.heap.size := by have := cell_lt H3.out.node.id; simpa using this
    have H4 : Hid (At3 W0 id u4 m3) := H3.out.below hb4
    have HV2 : Hid (PV u4 u3.heap.size u4.heap.size pv2 n2 cs2) := hV2
    have HB4 : Hid (Below u3.heap.size u3 u4) := hb4
    clear hV2 hb4 HT2 K2
    go_wp2_with fail
    refine (set_any W0.heap.size id m3 u4 pv2 n2 u3.heap.size u4.heap.size cs2 H4.out.node H4.out.any HV2.out (Nat.le_refl _) (.inl hlo) (fun b e => .inl (H3.out.pos b e).2)).mono ?_
    rintro e u5 ⟨rfl, m5, hS5⟩
    have H5 : Hid (At5 W0 id u5 m5 (cont u4 cs2 id (2 * n2)) (2 * n2) u3.heap.size u4.heap.size pv2 n2 cs2) := at5_of H3.out HB4.out HV2.out hS5
    clear hS5 HV2 HB4 H3 H4 hlo
    generalize cont u4 cs2 id (2 * n2) = D at H5
    generalize u3.heap.size = lo at H5
    generalize u4.heap.size = hi at H5
    go_wp2_with fail
    refine (node_any id _).mono ?_
    rintro e u6 ⟨rfl, hu⟩
    have H6 : Hid (u6 = u5.alloc (.cells (nodeCells id) 93)) := hu
    clear hu
    go_wp2_with fail
    refine (set_any u5.heap.size id none u6 pv2 n2 lo hi cs2 (by rw [H6.out]; exact nodeAt_new u5 id) (.inl rfl) (by rw [H6.out]; exact H5.out.pv.kept (fun q _ b => old_alloc u5 _ q (by have := H5.out.hi; omega))) (by rw [H6.out]; exact Nat.le_trans H5.out.hi (size_alloc_le u5 _)) (.inr H5.out.hi) (fun b e => by cases e)).mono ?_
    rintro e u7 ⟨rfl, m7, hS7⟩
    have H7 : Hid (At7 W0 u7 u5.heap.size m5 m7 D (2 * n2) (fun x => ∃ l t zs, NRow u7 l t x zs)) := at7_of H5.out (by rw [H6.out] at hS7; exact hS7)
    clear hS7 H5 H6
    have c5 := H7.out.c5
    have c7 := H7.out.c7
    have l5 := H7.out.map5.len
    have l7 := H7.out.map7.len
    go_wp2_with fail
    refine (watched_any _ _ _ c5).mono ?_
    rintro e y ⟨rfl, hu⟩
    subst y
    go_wp2_with fail
    refine (watched_any _ _ _ c7).mono ?_
    rintro e y ⟨rfl, hu⟩
    subst y
    clear c5 c7
    go_wp2
    clear l5 l7 HS1 HS2 HS3 hlim l1 l2 p1 q1 p2 q2 p3 q3
    go_loopw [12] (fun t w1 => ∃ p : Nat, p ≤ n ∧ t = .int .i64 p ∧ ∃ q, w1 = u7.drewN q) (fun t _ => n - (intOf t).toNat)
    case atStart => exact ⟨0, by omega, rfl, 0, rfl⟩
    case round =>
      obtain ⟨p, hp, rfl, q, rfl⟩ := hrel
      by_cases hlt : p < n
      · have hi : (p : Int) < (n : Int) := by omega
        obtain ⟨b, o, rfl, hb, hcell⟩ := HR.out p hlt
        have HC : Hid (∀ i, i < 2 → u7.cell? ⟨b, o + p * 7 + i, none⟩ = some (.int .u32 (hd p i))) := fun i hi => by
          rw [H7.out.bel.cell hb]
          exact hcell p i hlt hi
        clear hcell
        go_wp2
        go_loopw [13] (fun t w1 => ∃ i : Nat, i ≤ 2 ∧ t = .int .i64 i ∧ ∃ q, w1 = u7.drewN q) (fun t _ => 2 - (intOf t).toNat)
        case atStart => exact ⟨0, by omega, rfl, q, rfl⟩
        case round =>
          obtain ⟨i, hi, rfl, q, rfl⟩ := hrel
          rcases (by omega : i = 0 ∨ i = 1 ∨ i = 2) with rfl | rfl | rfl
          · have kc : u7.cell? ⟨b, o + p * 7, none⟩ = some (.int .u32 (hd p 0)) := HC.out 0 (by omega)
            obtain ⟨xx, k5, k7, hx⟩ := look_both (w := u7.drewN q) H7.out.map5 H7.out.map7 (hd p 0) (HBD.out p 0)
            obtain ⟨l, t, zs, hN⟩ := H7.out.found _ _ hx
            have HN : Hid (NRow (u7.drewN q) l t xx zs) := hN
            clear hx hN
            go_wp2_with (go_at_call 35; refine (same_any _ _ _ _ _ HN.out).mono ?_; rintro e y ⟨rfl, q', rfl⟩)
            · exact ⟨⟨1, by omega, rfl, _, rfl⟩, by decide⟩
            · exact ⟨⟨1, by omega, rfl, _, rfl⟩, by decide⟩
          · have kc : u7.cell? ⟨b, o + p * 7 + 1, none⟩ = some (.int .u32 (hd p 1)) := HC.out 1 (by omega)
            obtain ⟨xx, k5, k7, hx⟩ := look_both (w := u7.drewN q) H7.out.map5 H7.out.map7 (hd p 1) (HBD.out p 1)
            obtain ⟨l, t, zs, hN⟩ := H7.out.found _ _ hx
            have HN : Hid (NRow (u7.drewN q) l t xx zs) := hN
            clear hx hN
            go_wp2_with (go_at_call 35; refine (same_any _ _ _ _ _ HN.out).mono ?_; rintro e y ⟨rfl, q', rfl⟩)
            · exact ⟨⟨2, by omega, rfl, _, rfl⟩, by decide⟩
            · exact ⟨⟨2, by omega, rfl, _, rfl⟩, by decide⟩
          · go_wp2
            exact ⟨⟨p + 1, by omega, by go_num, _, rfl⟩, by simp [intOf]; omega⟩
      · go_wp2
        go_ret
        exact ⟨rfl, below_drewN H7.out.bel q⟩
  · go_wp2
    go_ret
    exact ⟨rfl, Below.refl _ _⟩
end Go.Proofs.Qxb6601243a
