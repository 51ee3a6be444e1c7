/-
  'SetPairs': its contract.
-/
import Derived.Test.Qxb6601243aMaps
namespace Go.Proofs.Qxb6601243a
open Go.RowKit
open Go.ChangeMaps (setBlock)

theorem clear_none (w : World) (ty : TypeId) : (Builtin.clear_ #[65] ty #[.map none]).run Try.prog w = .ok (.tuple #[]) w := by
  simp [Builtin.clear_, run_underlying Try.underlying65]
theorem clear_some (w : World) (ty : TypeId) (b : Nat) (es : Array MapEntry) (c : Nat) (h : w.heap[b]? = some (.map es c)) :
    (Builtin.clear_ #[65] ty #[.map (some b)]).run Try.prog w = .ok (.tuple #[]) (setBlock w b (.map #[] c)) := by
  simp [Builtin.clear_, run_underlying Try.underlying65, MapKept.run_getObj_map h, MapKept.run_setObj_map _ h, Result.andThen]
  rfl

theorem contains_val (v : Value) (zs : List Int) (x : Int) (c : Bool) (hc : hasN zs x = c) (w : World) (lo hi : Nat) (h : NRow w lo hi v zs) :
    Calls Try.prog 41 #[v, .int .u32 x] w fun e w' => e = .returned (.bool c) ∧ w' = w := hc ▸ contains_any v zs x w lo hi h

/-- What a round of SetPairs leaves. -/
structure St (nb : Nat) (id : Int) (m : Option Nat) (w w1 : World) (m' : Option Nat) (D : DataW Value) (k : Nat) : Prop where
  node : NodeAt w1 nb id m'
  map : MapIs w1 m' D k
  kept : Kept nb m w w1
  turn : m' = m ∨ (m = none ∧ ∃ b, m' = some b ∧ w.heap.size ≤ b)

theorem NodeAt.alloc {w : World} {nb : Nat} {id : Int} {m : Option Nat} (h : NodeAt w nb id m) (o : Obj) : NodeAt (w.alloc o) nb id m := by
  have hlt := cell_lt h.id
  have e : ∀ i, (w.alloc o).cell? ⟨nb, i, none⟩ = w.cell? ⟨nb, i, none⟩ := fun i => World.cell?_alloc_past o nb i hlt
  have f : ∀ i, (w.alloc o).frozen? ⟨nb, i, none⟩ = w.frozen? ⟨nb, i, none⟩ := fun i => by
    unfold World.frozen?
    have : (w.alloc o).heap[nb]? = w.heap[nb]? := by
      show (w.heap.push o)[nb]? = _
      rw [Array.getElem?_push, if_neg (by have : nb < w.heap.size := hlt; omega)]
    rw [this]
  exact ⟨(e 0).trans h.id, let ⟨p, hp⟩ := h.prs; ⟨p, (e 30).trans hp⟩, (e 31).trans h.map, (f 30).trans h.f30, (f 31).trans h.f31⟩
theorem MapIs.alloc {w : World} {m : Option Nat} {D : DataW Value} {k : Nat} (h : MapIs w m D k) (o : Obj) : MapIs (w.alloc o) m D k := by
  rcases h with h | ⟨b, e, h⟩
  · exact .inl h
  · exact .inr ⟨b, e, h.alloc o⟩
theorem St.alloc {nb : Nat} {id : Int} {m m' : Option Nat} {w w1 : World} {D : DataW Value} {k : Nat} (h : St nb id m w w1 m' D k) (o : Obj) : St nb id m w (w1.alloc o) m' D k :=
  ⟨h.node.alloc o, h.map.alloc o, h.kept.alloc o, h.turn⟩
theorem St.drewN {nb : Nat} {id : Int} {m m' : Option Nat} {w w1 : World} {D : DataW Value} {k : Nat} (h : St nb id m w w1 m' D k) (n : Nat) : St nb id m w (w1.drewN n) m' D k :=
  ⟨⟨h.node.id, h.node.prs, h.node.map, h.node.f30, h.node.f31⟩, h.map, h.kept.drewN n, h.turn⟩
theorem St.more {nb : Nat} {id : Int} {m m' : Option Nat} {w w1 : World} {D : DataW Value} {k : Nat} (h : St nb id m w w1 m' D k) (n : Nat) : St nb id m w w1 m' D (k + n) :=
  ⟨h.node, by
    rcases h.map with h | ⟨b, e, hb⟩
    · exact .inl h
    · exact .inr ⟨b, e, hb.mono (by omega)⟩, h.kept, h.turn⟩
theorem St.rows {nb pb hi : Nat} {id : Int} {m m' : Option Nat} {w w1 : World} {D : DataW Value} {k : Nat} (h : St nb id m w w1 m' D k) (h1 : nb < pb ∨ hi ≤ nb) (h2 : ∀ b, m = some b → b < pb ∨ hi ≤ b) (hhi : hi ≤ w.heap.size) :
    ∀ q, pb + 1 ≤ q → q < hi → w1.heap[q]? = w.heap[q]? := fun q ha hb => h.kept.block q (by omega) (by omega) (fun e => by have := h2 q e.symm; omega)
theorem box_new (w : World) (v0 v1 v2 v3 v4 v5 v6 : Value) : (w.alloc (.cells #[v0, v1, v2, v3, v4, v5, v6] 60)).heap[w.heap.size]? = some (.cells #[v0, v1, v2, v3, v4, v5, v6] 60 (0, 0)) := by
  show (w.heap.push _)[w.heap.size]? = _
  simp
theorem index0 (a b : Int) (w : World) : (Instr.index 58 (.agg #[.int .u32 a, .int .u32 b]) (.int .i64 0)).run Try.prog w = .ok (.int .u32 a) w := by kernel_rfl
theorem index1 (a b : Int) (w : World) : (Instr.index 58 (.agg #[.int .u32 a, .int .u32 b]) (.int .i64 1)).run Try.prog w = .ok (.int .u32 b) w := by kernel_rfl
theorem cont_no (w : World) (cs : List Value) (id : Int) (j i : Nat) (hi : i < 2) (h : hasN (rowOf w (watOf cs j i)) id = false) : cont w cs id (2 * j + i + 1) = cont w cs id (2 * j + i) := by
  rw [cont]
  rw [show (2 * j + i) / 2 = j by omega, show (2 * j + i) % 2 = i by omega, h]
  rfl
theorem cont_yes (w : World) (cs : List Value) (id : Int) (j i : Nat) (hi : i < 2) (h : hasN (rowOf w (watOf cs j i)) id = true) : cont w cs id (2 * j + i + 1) = (cont w cs id (2 * j + i)).put (.int .u32 (headOf cs j i)) (.held (watOf cs j i)) := by
  rw [cont]
  rw [show (2 * j + i) / 2 = j by omega, show (2 * j + i) % 2 = i by omega, h]
  rfl

/-- The node's block and the map's are two. -/
theorem node_ne {w : World} {nb b k : Nat} {id : Int} {m : Option Nat} {D : DataW Value} (N : NodeAt w nb id m) (h : w.ownsMap Try.prog 39 R b k D) : nb ≠ b := by
  rintro rfl
  obtain ⟨es, c, hb, _⟩ := h
  have := N.id
  unfold World.cell? at this
  rw [hb] at this
  cases this
theorem NodeAt.kept {w w' : World} {nb : Nat} {id : Int} {m : Option Nat} (N : NodeAt w nb id m) (h : w'.heap[nb]? = w.heap[nb]?) : NodeAt w' nb id m := by
  have c : ∀ i, w'.cell? ⟨nb, i, none⟩ = w.cell? ⟨nb, i, none⟩ := fun i => by unfold World.cell?; rw [h]
  have f : ∀ i, w'.frozen? ⟨nb, i, none⟩ = w.frozen? ⟨nb, i, none⟩ := fun i => by unfold World.frozen?; rw [h]
  exact ⟨(c 0).trans N.id, let ⟨p, hp⟩ := N.prs; ⟨p, (c 30).trans hp⟩, (c 31).trans N.map, (f 30).trans N.f30, (f 31).trans N.f31⟩
/-- A store into the map, as the region's last operation runs it: what is left is known. -/
theorem St.store {nb P0 : Nat} {id : Int} {m : Option Nat} {mb : Nat} {w wq : World} {D : DataW Value} {k : Nat} {box : Array Value} (h : St nb id m w wq (some mb) D k) (hx : wq.heap[P0]? = some (.cells box 60 (0, 0))) (hd : Int) (bd : 0 ≤ hd ∧ hd ≤ 4294967295) (v : Value) (hk : k < 4194304) :
    ∃ wu, (Instr.mapUpdate 65 (.map (some mb)) (.int .u32 hd) v).run Try.prog wq.drew = .ok () wu ∧ Hid (St nb id m w wu (some mb) (D.put (.int .u32 hd) (.held v)) (k + 1)) ∧ Hid (wu.heap[P0]? = some (.cells box 60 (0, 0))) := by
  rcases h.map with ⟨e, _⟩ | ⟨b, e, hown⟩
  · cases e
  · cases e
    have hne := node_ne h.node hown
    have hw : (Lit.int .u32 hd).wf = true := by
      have e1 : IntKind.u32.min = 0 := rfl
      have e2 : IntKind.u32.max = 4294967295 := rfl
      simp only [Lit.wf, e1, e2, Bool.and_eq_true, decide_eq_true_eq]
      exact bd
    obtain ⟨wu, hrun, hown', hgrow⟩ := hown.drew.update (val := v) (d := .held v) (ps := []) key39 Try.underlying65 (by unfold maxLen; omega) (Maps.keyOf_int_mk Try.underlying39 hw) rfl
    have hlt : nb < wq.heap.size := cell_lt h.node.id
    have hpx : P0 < wq.heap.size := (Array.getElem?_eq_some_iff.1 hx).1
    have hpm : P0 ≠ mb := by
      rintro rfl
      obtain ⟨es, c, hb, _⟩ := hown
      rw [hx] at hb
      cases hb
    refine ⟨wu, hrun, ⟨h.node.kept (hgrow.block nb hlt (fun e => hne (Option.some.inj e))), .inr ⟨mb, rfl, hown'⟩, ?_, h.turn⟩, (hgrow.block P0 hpx (fun e => hpm (Option.some.inj e))).trans hx⟩
    have hK : Kept nb m w wq.drew := h.kept.drewN 1
    refine hK.grown hgrow ?_
    rcases h.turn with e | ⟨_, b, e, hb⟩
    · exact .inl e.symm
    · cases e; exact .inr hb
/-- 'n.watched = map[NID][]NID{}'. -/
theorem St.made {nb : Nat} {id : Int} {m : Option Nat} {w wq : World} {D : DataW Value} {k : Nat} (h : St nb id m w wq none D k) : St nb id m w ((wq.alloc (.map #[] 0)).setCell ⟨nb, 31, none⟩ (.map (some wq.heap.size))) (some wq.heap.size) D k := by
  have hm : m = none := by
    rcases h.turn with e | ⟨_, b, e, _⟩
    · exact e.symm
    · cases e
  have hD : D = .map [] := by
    rcases h.map with ⟨_, e⟩ | ⟨b, e, _⟩
    · exact e
    · cases e
  subst hD
  have hlt : nb < wq.heap.size := cell_lt h.node.id
  have N1 := h.node.alloc (.map #[] 0)
  have hown : (wq.alloc (.map #[] 0)).ownsMap Try.prog 39 R wq.heap.size 0 (.map []) := World.ownsMap_made wq Try.prog 39 R
  refine ⟨?_, .inr ⟨_, rfl, (hown.setCell (a := ⟨nb, 31, none⟩) (by show wq.heap.size ≠ nb; omega) _).mono (by omega)⟩, (h.kept.alloc _).setCell 31 _, .inr ⟨hm, _, rfl, h.kept.size⟩⟩
  have hc : ∀ i, i ≠ 31 → ((wq.alloc (.map #[] 0)).setCell ⟨nb, 31, none⟩ (.map (some wq.heap.size))).cell? ⟨nb, i, none⟩ = (wq.alloc (.map #[] 0)).cell? ⟨nb, i, none⟩ := fun i hi => World.cell?_setCell_other _ _ _ _ (fun e => by cases e; exact hi rfl)
  refine ⟨(hc 0 (by omega)).trans N1.id, let ⟨p, hp⟩ := N1.prs; ⟨p, (hc 30 (by omega)).trans hp⟩, ?_, ?_, ?_⟩
  · exact World.cell?_setCell_same _ _ _ N1.map
  · rw [World.frozen?_setCell]; exact N1.f30
  · rw [World.frozen?_setCell]; exact N1.f31
theorem box_made {nb P0 : Nat} {wq : World} {box : Array Value} (hx : wq.heap[P0]? = some (.cells box 60 (0, 0))) (hne : P0 ≠ nb) : ((wq.alloc (.map #[] 0)).setCell ⟨nb, 31, none⟩ (.map (some wq.heap.size))).heap[P0]? = some (.cells box 60 (0, 0)) := by
  have hpx : P0 < wq.heap.size := (Array.getElem?_eq_some_iff.1 hx).1
  rw [heap_setCell_other _ ⟨nb, 31, none⟩ P0 _ hne]
  show (wq.heap.push _)[P0]? = _
  rw [Array.getElem?_push, if_neg (by omega)]
  exact hx

set_option maxHeartbeats 2000000 in
theorem set_core (nb pb n hi : Nat) (id : Int) (m : Option Nat) (cs : List Value) (w W1 : World) (k30 : ∃ p30, w.cell? ⟨nb, 30, none⟩ = some p30) (k31 : w.cell? ⟨nb, 31, none⟩ = some (.map m)) (f30 : w.frozen? ⟨nb, 30, none⟩ = false)
    (hcl : ∀ ty, (Builtin.clear_ #[65] ty #[.map m]).run Try.prog (w.setCell ⟨nb, 30, none⟩ (.slice (some ⟨pb, 0, none⟩) n n)) = .ok (.tuple #[]) W1)
    (hS : St nb id m w W1 m (.map []) 0)
    (hP : BlockAt w pb cs) (hG : GoodPairs w (pb + 1) hi n cs) (hhi : hi ≤ w.heap.size) (hn : n ≤ 1048576) (hnb : nb < pb ∨ hi ≤ nb) (hnp : nb ≠ pb) (hmb : ∀ b, m = some b → (b < pb ∨ hi ≤ b) ∧ b ≠ pb) :
    Calls Try.prog 29 #[.pointer (some ⟨nb, 0, none⟩), .slice (some ⟨pb, 0, none⟩) n n] w fun e w' => e = .returned (.tuple #[]) ∧ ∃ m', St nb id m w w' m' (cont w cs id (2 * n)) (2 * n) := by
  obtain ⟨p30, k30⟩ := k30
  have HG : Hid (GoodPairs w (pb + 1) hi n cs) := hG
  have HP : Hid (BlockAt w pb cs) := hP
  have HM : Hid (∀ b, m = some b → (b < pb ∨ hi ≤ b) ∧ b ≠ pb) := hmb
  have HN : Hid ((nb < pb ∨ hi ≤ nb) ∧ nb ≠ pb) := ⟨hnb, hnp⟩
  clear hG hP hmb hnb hnp
  go_enter Try.func29, Try.ntmps29
  go_wp2
  clear hcl k30 k31 f30
  go_loopw [18] (fun t w1 => ∃ (j : Nat) (m' : Option Nat), j ≤ n ∧ t = .int .i64 j ∧ Hid (St nb id m w w1 m' (cont w cs id (2 * j)) (2 * j))) (fun t _ => n - (intOf t).toNat)
  case atStart => exact ⟨0, m, by omega, rfl, hS⟩
  case round =>
    clear hS
    obtain ⟨j, m1, hj, rfl, HS⟩ := hrel
    by_cases hlt : j < n
    · have hij : (j : Int) < (n : Int) := by omega
      have hPr : BlockAt wr pb cs := (HS.out.kept.block pb (BlockAt.lt HP.out) (fun e => HN.out.2 e.symm) (fun e => (HM.out pb e.symm).2 rfl)).trans HP.out
      obtain ⟨e0, _⟩ := HG.out.headAt j hlt 0 (by omega)
      obtain ⟨e1, _⟩ := HG.out.headAt j hlt 1 (by omega)
      obtain ⟨_, e2, ⟨a2, n2, d2, rfl⟩, _⟩ := HG.out.sl j hlt 0 (by omega)
      obtain ⟨_, e3, ⟨a3, n3, d3, rfl⟩, _⟩ := HG.out.sl j hlt 1 (by omega)
      obtain ⟨_, e4, ⟨a4, n4, d4, rfl⟩, _⟩ := HG.out.sl j hlt 2 (by omega)
      obtain ⟨e5, ⟨a5, n5, d5, hw5⟩, hr5⟩ := HG.out.watAt j hlt 0 (by omega)
      obtain ⟨e6, ⟨a6, n6, d6, hw6⟩, hr6⟩ := HG.out.watAt j hlt 1 (by omega)
      have HW5 : Hid (watOf cs j 0 = .slice a5 n5 d5 ∧ NRow w (pb + 1) hi (watOf cs j 0) (rowOf w (watOf cs j 0))) := ⟨hw5, hr5⟩
      have HW6 : Hid (watOf cs j 1 = .slice a6 n6 d6 ∧ NRow w (pb + 1) hi (watOf cs j 1) (rowOf w (watOf cs j 1))) := ⟨hw6, hr6⟩
      rw [hw5] at e5
      rw [hw6] at e6
      clear hw5 hw6 hr5 hr6
      have c0 : wr.cell? ⟨pb, j * 7, none⟩ = some (.int .u32 (headOf cs j 0)) := (cell_of_heap hPr _).trans (by simpa using e0)
      have c1 : wr.cell? ⟨pb, j * 7 + 1, none⟩ = some (.int .u32 (headOf cs j 1)) := (cell_of_heap hPr _).trans (by simpa using e1)
      have c2 : wr.cell? ⟨pb, j * 7 + 2, none⟩ = some (.slice a2 n2 d2) := (cell_of_heap hPr _).trans (by simpa using e2)
      have c3 : wr.cell? ⟨pb, j * 7 + 3, none⟩ = some (.slice a3 n3 d3) := (cell_of_heap hPr _).trans (by simpa using e3)
      have c4 : wr.cell? ⟨pb, j * 7 + 4, none⟩ = some (.slice a4 n4 d4) := (cell_of_heap hPr _).trans (by simpa using e4)
      have c5 : wr.cell? ⟨pb, j * 7 + 5, none⟩ = some (.slice a5 n5 d5) := (cell_of_heap hPr _).trans (by simpa using e5)
      have c6 : wr.cell? ⟨pb, j * 7 + 6, none⟩ = some (.slice a6 n6 d6) := (cell_of_heap hPr _).trans (by simpa using e6)
      clear e0 e1 e2 e3 e4 e5 e6 hPr
      obtain ⟨wo, rfl⟩ : ∃ wo : World, wo = wr := ⟨_, rfl⟩
      have hnbo : nb < wo.heap.size := cell_lt HS.out.node.id
      go_wp2
      clear c0 c1 c2 c3 c4 c5 c6
      have hbox := box_new wo (.int .u32 (headOf cs j 0)) (.int .u32 (headOf cs j 1)) (.slice a2 n2 d2) (.slice a3 n3 d3) (.slice a4 n4 d4) (.slice a5 n5 d5) (.slice a6 n6 d6)
      have hS1 := HS.out.alloc (.cells #[.int .u32 (headOf cs j 0), .int .u32 (headOf cs j 1), .slice a2 n2 d2, .slice a3 n3 d3, .slice a4 n4 d4, .slice a5 n5 d5, .slice a6 n6 d6] 60)
      go_loopw [24] (fun t w1 => ∃ (i : Nat) (m2 : Option Nat), i ≤ 2 ∧ t = .int .i64 i ∧ Hid (St nb id m w w1 m2 (cont w cs id (2 * j + i)) (2 * j + i)) ∧ Hid (w1.heap[wo.heap.size]? = some (.cells #[.int .u32 (headOf cs j 0), .int .u32 (headOf cs j 1), .slice a2 n2 d2, .slice a3 n3 d3, .slice a4 n4 d4, .slice a5 n5 d5, .slice a6 n6 d6] 60 (0, 0)))) (fun t _ => 2 - (intOf t).toNat)
      case atStart => exact ⟨0, m1, by omega, rfl, hS1, hbox⟩
      case round =>
        clear hbox hS1
        obtain ⟨i, m2, hi2, rfl, HT, HX⟩ := hrel
        have hx0 := fun w => index0 (headOf cs j 0) (headOf cs j 1) w
        have hx1 := fun w => index1 (headOf cs j 0) (headOf cs j 1) w
        have k0 := HT.out.node.id
        have k31 := HT.out.node.map
        rcases (by omega : i = 0 ∨ i = 1 ∨ i = 2) with rfl | rfl | rfl
        · have b5 : wr.cell? ⟨wo.heap.size, 5, none⟩ = some (.slice a5 n5 d5) := cell_of_heap HX.out 5
          have hrow : NRow wr (pb + 1) hi (.slice a5 n5 d5) (rowOf w (watOf cs j 0)) := HW5.out.1 ▸ HW5.out.2.up (Nat.le_refl _) (HT.out.rows HN.out.1 (fun b e => (HM.out b e).1) hhi)
          obtain ⟨zs, hzs⟩ : ∃ zs, zs = rowOf w (watOf cs j 0) := ⟨_, rfl⟩
          rw [← hzs] at hrow
          cases hh : hasN zs id with
          | false =>
            have HC : Hid (cont w cs id (2 * j + 0 + 1) = cont w cs id (2 * j + 0)) := cont_no w cs id j 0 (by omega) (hzs ▸ hh)
            have HR : Hid (NRow wr (pb + 1) hi (.slice a5 n5 d5) zs) := hrow
            have HH : Hid (hasN zs id = false) := hh
            clear hrow hzs hh
            go_wp2
            go_quiet ((go_at_call 41; exact Calls.quiet_of_same (contains_val _ zs id false HH.out _ _ _ HR.out)))
            go_wp2
            exact ⟨⟨1, m2, by omega, rfl, (HC.out ▸ (HT.out.more 1)).drewN _, HX.out⟩, by simp [intOf]⟩
          | true =>
            have HC : Hid (cont w cs id (2 * j + 0 + 1) = (cont w cs id (2 * j + 0)).put (.int .u32 (headOf cs j 0)) (.held (watOf cs j 0))) := cont_yes w cs id j 0 (by omega) (hzs ▸ hh)
            have HR : Hid (NRow wr (pb + 1) hi (.slice a5 n5 d5) zs) := hrow
            have HH : Hid (hasN zs id = true) := hh
            clear hrow hzs hh
            go_wp2
            go_quiet ((go_at_call 41; exact Calls.quiet_of_same (contains_val _ zs id true HH.out _ _ _ HR.out)))
            have HT' : Hid (St nb id m w (wr.drewN nq) m2 (cont w cs id (2 * j + 0)) (2 * j + 0)) := HT.out.drewN nq
            have HX' : Hid ((wr.drewN nq).heap[wo.heap.size]? = some (.cells #[.int .u32 (headOf cs j 0), .int .u32 (headOf cs j 1), .slice a2 n2 d2, .slice a3 n3 d3, .slice a4 n4 d4, .slice a5 n5 d5, .slice a6 n6 d6] 60 (0, 0))) := HX.out
            clear HT HX k0 k31 b5 HR HH
            generalize wr.drewN nq = wq at HT' HX' ⊢
            have k31 := HT'.out.node.map
            have f31 := HT'.out.node.f31
            have b5 : wq.cell? ⟨wo.heap.size, 5, none⟩ = some (.slice a5 n5 d5) := cell_of_heap HX'.out 5
            cases m2 with
            | none =>
              have hnil := fun w => run_eql_map_nil (P := Try.prog) w 65 39 40 none Try.underlying65
              have hmm := @run_makeMap Try.prog
              have N1 := HT'.out.node.alloc (.map #[] 0)
              have q1 := N1.map
              have q2 := N1.f31
              go_wp2
              have HT2 : Hid (St nb id m w ((wq.alloc (.map #[] 0)).setCell ⟨nb, 31, none⟩ (.map (some wq.heap.size))) (some wq.heap.size) (cont w cs id (2 * j + 0)) (2 * j + 0)) := HT'.out.made
              have HX2 : Hid (((wq.alloc (.map #[] 0)).setCell ⟨nb, 31, none⟩ (.map (some wq.heap.size))).heap[wo.heap.size]? = some (.cells #[.int .u32 (headOf cs j 0), .int .u32 (headOf cs j 1), .slice a2 n2 d2, .slice a3 n3 d3, .slice a4 n4 d4, .slice a5 n5 d5, .slice a6 n6 d6] 60 (0, 0))) := box_made HX'.out (by have := hnbo; omega)
              clear HT' HX' N1 q1 q2 k31 f31 b5 hnil hmm
              generalize (wq.alloc (.map #[] 0)).setCell ⟨nb, 31, none⟩ (.map (some wq.heap.size)) = wy at HT2 HX2 ⊢
              generalize wq.heap.size = mb at HT2 ⊢
              have k31 := HT2.out.node.map
              have b5 : wy.cell? ⟨wo.heap.size, 5, none⟩ = some (.slice a5 n5 d5) := cell_of_heap HX2.out 5
              obtain ⟨wu, hrun, HU, HK⟩ := HT2.out.store HX2.out (headOf cs j 0) (HG.out.headAt j hlt 0 (by omega)).2 (.slice a5 n5 d5) (by omega)
              go_region
              go_wp2
              exact ⟨⟨1, some mb, by omega, rfl, (HC.out.trans (by rw [HW5.out.1])) ▸ HU.out, HK.out⟩, by simp [intOf]⟩
            | some mb =>
              have hnil := fun w => run_eql_map_nil (P := Try.prog) w 65 39 40 (some mb) Try.underlying65
              go_wp2
              clear hnil
              obtain ⟨wu, hrun, HU, HK⟩ := HT'.out.store HX'.out (headOf cs j 0) (HG.out.headAt j hlt 0 (by omega)).2 (.slice a5 n5 d5) (by omega)
              go_region
              go_wp2
              exact ⟨⟨1, some mb, by omega, rfl, (HC.out.trans (by rw [HW5.out.1])) ▸ HU.out, HK.out⟩, by simp [intOf]⟩
        · have b6 : wr.cell? ⟨wo.heap.size, 6, none⟩ = some (.slice a6 n6 d6) := cell_of_heap HX.out 6
          have hrow : NRow wr (pb + 1) hi (.slice a6 n6 d6) (rowOf w (watOf cs j 1)) := HW6.out.1 ▸ HW6.out.2.up (Nat.le_refl _) (HT.out.rows HN.out.1 (fun b e => (HM.out b e).1) hhi)
          obtain ⟨zs, hzs⟩ : ∃ zs, zs = rowOf w (watOf cs j 1) := ⟨_, rfl⟩
          rw [← hzs] at hrow
          cases hh : hasN zs id with
          | false =>
            have HC : Hid (cont w cs id (2 * j + 1 + 1) = cont w cs id (2 * j + 1)) := cont_no w cs id j 1 (by omega) (hzs ▸ hh)
            have HR : Hid (NRow wr (pb + 1) hi (.slice a6 n6 d6) zs) := hrow
            have HH : Hid (hasN zs id = false) := hh
            clear hrow hzs hh
            go_wp2
            go_quiet ((go_at_call 41; exact Calls.quiet_of_same (contains_val _ zs id false HH.out _ _ _ HR.out)))
            go_wp2
            exact ⟨⟨2, m2, by omega, rfl, (HC.out ▸ (HT.out.more 1)).drewN _, HX.out⟩, by simp [intOf]⟩
          | true =>
            have HC : Hid (cont w cs id (2 * j + 1 + 1) = (cont w cs id (2 * j + 1)).put (.int .u32 (headOf cs j 1)) (.held (watOf cs j 1))) := cont_yes w cs id j 1 (by omega) (hzs ▸ hh)
            have HR : Hid (NRow wr (pb + 1) hi (.slice a6 n6 d6) zs) := hrow
            have HH : Hid (hasN zs id = true) := hh
            clear hrow hzs hh
            go_wp2
            go_quiet ((go_at_call 41; exact Calls.quiet_of_same (contains_val _ zs id true HH.out _ _ _ HR.out)))
            have HT' : Hid (St nb id m w (wr.drewN nq) m2 (cont w cs id (2 * j + 1)) (2 * j + 1)) := HT.out.drewN nq
            have HX' : Hid ((wr.drewN nq).heap[wo.heap.size]? = some (.cells #[.int .u32 (headOf cs j 0), .int .u32 (headOf cs j 1), .slice a2 n2 d2, .slice a3 n3 d3, .slice a4 n4 d4, .slice a5 n5 d5, .slice a6 n6 d6] 60 (0, 0))) := HX.out
            clear HT HX k0 k31 b6 HR HH
            generalize wr.drewN nq = wq at HT' HX' ⊢
            have k31 := HT'.out.node.map
            have f31 := HT'.out.node.f31
            have b6 : wq.cell? ⟨wo.heap.size, 6, none⟩ = some (.slice a6 n6 d6) := cell_of_heap HX'.out 6
            cases m2 with
            | none =>
              have hnil := fun w => run_eql_map_nil (P := Try.prog) w 65 39 40 none Try.underlying65
              have hmm := @run_makeMap Try.prog
              have N1 := HT'.out.node.alloc (.map #[] 0)
              have q1 := N1.map
              have q2 := N1.f31
              go_wp2
              have HT2 : Hid (St nb id m w ((wq.alloc (.map #[] 0)).setCell ⟨nb, 31, none⟩ (.map (some wq.heap.size))) (some wq.heap.size) (cont w cs id (2 * j + 1)) (2 * j + 1)) := HT'.out.made
              have HX2 : Hid (((wq.alloc (.map #[] 0)).setCell ⟨nb, 31, none⟩ (.map (some wq.heap.size))).heap[wo.heap.size]? = some (.cells #[.int .u32 (headOf cs j 0), .int .u32 (headOf cs j 1), .slice a2 n2 d2, .slice a3 n3 d3, .slice a4 n4 d4, .slice a5 n5 d5, .slice a6 n6 d6] 60 (0, 0))) := box_made HX'.out (by have := hnbo; omega)
              clear HT' HX' N1 q1 q2 k31 f31 b6 hnil hmm
              generalize (wq.alloc (.map #[] 0)).setCell ⟨nb, 31, none⟩ (.map (some wq.heap.size)) = wy at HT2 HX2 ⊢
              generalize wq.heap.size = mb at HT2 ⊢
              have k31 := HT2.out.node.map
              have b6 : wy.cell? ⟨wo.heap.size, 6, none⟩ = some (.slice a6 n6 d6) := cell_of_heap HX2.out 6
              obtain ⟨wu, hrun, HU, HK⟩ := HT2.out.store HX2.out (headOf cs j 1) (HG.out.headAt j hlt 1 (by omega)).2 (.slice a6 n6 d6) (by omega)
              go_region
              go_wp2
              exact ⟨⟨2, some mb, by omega, rfl, (HC.out.trans (by rw [HW6.out.1])) ▸ HU.out, HK.out⟩, by simp [intOf]⟩
            | some mb =>
              have hnil := fun w => run_eql_map_nil (P := Try.prog) w 65 39 40 (some mb) Try.underlying65
              go_wp2
              clear hnil
              obtain ⟨wu, hrun, HU, HK⟩ := HT'.out.store HX'.out (headOf cs j 1) (HG.out.headAt j hlt 1 (by omega)).2 (.slice a6 n6 d6) (by omega)
              go_region
              go_wp2
              exact ⟨⟨2, some mb, by omega, rfl, (HC.out.trans (by rw [HW6.out.1])) ▸ HU.out, HK.out⟩, by simp [intOf]⟩
        · go_wp2
          exact ⟨⟨j + 1, m2, by omega, by go_num, (show 2 * (j + 1) = 2 * j + 2 by omega) ▸ HT.out⟩, by simp [intOf]; omega⟩
    · go_wp2
      go_end0
      obtain rfl : j = n := by omega
      exact ⟨rfl, m1, HS.out⟩

theorem NodeAt.set30 {w : World} {nb : Nat} {id : Int} {m : Option Nat} (N : NodeAt w nb id m) (v : Value) : NodeAt (w.setCell ⟨nb, 30, none⟩ v) nb id m := by
  have hc : ∀ i, i ≠ 30 → (w.setCell ⟨nb, 30, none⟩ v).cell? ⟨nb, i, none⟩ = w.cell? ⟨nb, i, none⟩ := fun i hi => World.cell?_setCell_other _ _ _ _ (fun e => by cases e; exact hi rfl)
  obtain ⟨p, hp⟩ := N.prs
  exact ⟨(hc 0 (by omega)).trans N.id, ⟨v, World.cell?_setCell_same _ _ _ hp⟩, (hc 31 (by omega)).trans N.map, by rw [World.frozen?_setCell]; exact N.f30, by rw [World.frozen?_setCell]; exact N.f31⟩

/-- A map's value that can be cleared. -/
def AnyMap (w : World) (m : Option Nat) : Prop := m = none ∨ ∃ b k D, m = some b ∧ w.ownsMap Try.prog 39 R b k D

/-- The two statements ahead of the loops: the field, and 'clear'. -/
theorem cleared {w : World} {nb : Nat} {id : Int} {m : Option Nat} (N : NodeAt w nb id m) (hm : AnyMap w m) (v : Value) :
    ∃ W1, (∀ ty, (Builtin.clear_ #[65] ty #[.map m]).run Try.prog (w.setCell ⟨nb, 30, none⟩ v) = .ok (.tuple #[]) W1) ∧ St nb id m w W1 m (.map []) 0 := by
  rcases hm with rfl | ⟨b, k, D, rfl, hown⟩
  · exact ⟨_, fun ty => clear_none _ ty, N.set30 v, .inl ⟨rfl, rfl⟩, (Kept.refl _ _ _).setCell 30 v, .inl rfl⟩
  · have hne := node_ne N hown
    have hown1 := hown.setCell (a := ⟨nb, 30, none⟩) (fun e => hne e.symm) v
    have N1 := N.set30 v
    have K1 : Kept nb (some b) w (w.setCell ⟨nb, 30, none⟩ v) := (Kept.refl _ _ _).setCell 30 v
    generalize w.setCell ⟨nb, 30, none⟩ v = wv at hown1 N1 K1 ⊢
    obtain ⟨es, c, hb, F, _, _⟩ := hown1
    have hg : wv.grownBy (setBlock wv b (.map #[] c)) (some b) := ⟨rfl, rfl, rfl, by simp [setBlock], fun i _ hi => ChangeMaps.heap_setBlock_other hb _ (fun e => hi (by rw [e]))⟩
    refine ⟨_, fun ty => clear_some _ ty b es c hb, N1.kept (hg.block nb (cell_lt N1.id) (fun e => hne (Option.some.inj e))), .inr ⟨b, rfl, #[], c, ChangeMaps.heap_setBlock_same hb _, ⟨by simp, MapKept.stamped_empty c, by simp⟩, by simp, rfl⟩, K1.grown hg (.inl rfl), .inl rfl⟩

theorem set_row (nb pb n hi : Nat) (id : Int) (m : Option Nat) (cs : List Value) (w : World) (N : NodeAt w nb id m) (hm : AnyMap w m)
    (hP : BlockAt w pb cs) (hG : GoodPairs w (pb + 1) hi n cs) (hhi : hi ≤ w.heap.size) (hn : n ≤ 1048576) (hnb : nb < pb ∨ hi ≤ nb) (hnp : nb ≠ pb) (hmb : ∀ b, m = some b → (b < pb ∨ hi ≤ b) ∧ b ≠ pb) :
    Calls Try.prog 29 #[.pointer (some ⟨nb, 0, none⟩), .slice (some ⟨pb, 0, none⟩) n n] w fun e w' => e = .returned (.tuple #[]) ∧ ∃ m', St nb id m w w' m' (cont w cs id (2 * n)) (2 * n) := by
  obtain ⟨W1, hcl, hS⟩ := cleared N hm (.slice (some ⟨pb, 0, none⟩) n n)
  exact set_core nb pb n hi id m cs w W1 N.prs N.map N.f30 hcl hS hP hG hhi hn hnb hnp hmb

set_option maxHeartbeats 400000 in
theorem set_nil (nb : Nat) (id : Int) (m : Option Nat) (w : World) (N : NodeAt w nb id m) (hm : AnyMap w m) :
    Calls Try.prog 29 #[.pointer (some ⟨nb, 0, none⟩), .slice none 0 0] w fun e w' => e = .returned (.tuple #[]) ∧ ∃ m', St nb id m w w' m' (.map []) 0 := by
  obtain ⟨W1, hcl, hS⟩ := cleared N hm (.slice none 0 0)
  obtain ⟨p30, k30⟩ := N.prs
  have k31 := N.map
  have f30 := N.f30
  have HS : Hid (St nb id m w W1 m (.map []) 0) := hS
  clear hS N hm
  go_enter Try.func29, Try.ntmps29
  go_wp2
  refine wp_loop_rounds 1 ?_; rw [rounds_succ]
  go_wp2
  go_end0
  exact ⟨rfl, m, HS.out⟩
end Go.Proofs.Qxb6601243a
