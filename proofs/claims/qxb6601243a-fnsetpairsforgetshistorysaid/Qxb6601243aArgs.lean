/-
  The arguments of type []ZPair, opened; what the law's walk is told of them.
-/
import Derived.Test.Qxb6601243aLaw
import Derived.OpenShut
import Derived.Deep.Slices
namespace Go.Proofs.Qxb6601243a
open Go.RowKit Go.ChangeShapes Go.WideShapes

section
variable {H : Type} {enc : TypeId × Value → H} {w : World} {base : Nat} {spare : Nat → Bool} {held : Bool}

theorem open_nids {fuel : Nat} {v : Value} {x : DataW H × List MemPlace} (h : DataW.trod enc Try.prog w base spare held fuel 24 [v] = some x) :
    ∃ a n c z, v = .slice a n c ∧ URow w a n z ∧ n ≤ maxLen ∧ (a = none → c = 0) := by
  rcases open_ints Try.underlying24 Try.underlying23 (by kernel_rfl) h with ⟨hcs, _⟩ | ⟨y, l, c, zs, hcs, _, hl, hm, hz, _, hcell, _⟩
  · simp at hcs
    subst hcs
    exact ⟨none, 0, 0, fun _ => 0, rfl, ⟨fun _ => rfl, fun h => absurd h (by omega)⟩, Nat.zero_le _, fun _ => rfl⟩
  · simp at hcs
    subst hcs
    refine ⟨some y, l, c, fun i => zs.getD i 0, rfl, ⟨fun e => (by cases e), fun h0 => ?_⟩, by omega, fun e => (by cases e)⟩
    have hlen : l ≤ zs.length := by rw [hz]; split <;> omega
    have h1 := hcell 0 (by omega)
    have hs : y.spot = none := World.cell?_spot h1
    obtain ⟨b, o, s⟩ := y
    simp at hs
    subst hs
    exact ⟨b, o, rfl, fun i hi => by rw [← WideShapes.add_plain]; exact hcell i (by omega)⟩

theorem open_head {fuel : Nat} {v : Value} {x : DataW H × List MemPlace} (h : DataW.trod enc Try.prog w base spare held fuel 23 [v] = some x) :
    ∃ k, v = .int .u32 k ∧ 0 ≤ k ∧ k ≤ 4294967295 := by
  obtain ⟨k, hv, _, hw⟩ := DataW.trod_int Try.underlying23 h
  simp at hv
  exact ⟨k, hv, bounds_u32 hw⟩

theorem some_at {α : Type} {xs : List α} {n i : Nat} (h : xs.length = n) (hi : i < n) : ∃ y, xs[i]? = some y := ⟨xs[i], List.getElem?_eq_getElem (by omega)⟩

/-- One element of ZPair, its seven cells. -/
structure ZPair7 (w : World) (cs : List Value) (hd : Nat → Int) (sa : Nat → Option Addr) (sn sc : Nat → Nat) (z : Nat → Nat → Int) : Prop where
  head : ∀ i, i < 2 → cs[i]? = some (.int .u32 (hd i))
  bd : ∀ i, 0 ≤ hd i ∧ hd i ≤ 4294967295
  sl : ∀ q, q < 5 → cs[2 + q]? = some (.slice (sa q) (sn q) (sc q))
  row : ∀ q, q < 5 → URow w (sa q) (sn q) (z q)
  len : ∀ q, q < 5 → sn q ≤ maxLen
  nil : ∀ q, q < 5 → sa q = none → sc q = 0

theorem open_heads {fuel : Nat} {v0 v1 : Value} {x : DataW H × List MemPlace} (h : DataW.trod enc Try.prog w base spare held fuel 74 [v0, v1] = some x) :
    (∃ k, v0 = .int .u32 k ∧ 0 ≤ k ∧ k ≤ 4294967295) ∧ ∃ k, v1 = .int .u32 k ∧ 0 ≤ k ∧ k ≤ 4294967295 := by
  obtain ⟨xs, m, _, _, _, hxs, hf⟩ := DataW.trod_array Try.underlying74 h
  have c23 : Try.prog.cellsOf 23 = 1 := by kernel_rfl
  rw [c23] at hf
  obtain ⟨y0, e0⟩ := some_at hxs (i := 0) (by decide)
  obtain ⟨y1, e1⟩ := some_at hxs (i := 1) (by decide)
  exact ⟨open_head ((hf 0 (by decide)).trans e0), open_head ((hf 1 (by decide)).trans e1)⟩

theorem open_two {fuel : Nat} {v0 v1 : Value} {x : DataW H × List MemPlace} (h : DataW.trod enc Try.prog w base spare held fuel 75 [v0, v1] = some x) :
    (∃ a n c z, v0 = .slice a n c ∧ URow w a n z ∧ n ≤ maxLen ∧ (a = none → c = 0)) ∧ ∃ a n c z, v1 = .slice a n c ∧ URow w a n z ∧ n ≤ maxLen ∧ (a = none → c = 0) := by
  obtain ⟨xs, m, _, _, _, hxs, hf⟩ := DataW.trod_array Try.underlying75 h
  have c24 : Try.prog.cellsOf 24 = 1 := by kernel_rfl
  rw [c24] at hf
  obtain ⟨y0, e0⟩ := some_at hxs (i := 0) (by decide)
  obtain ⟨y1, e1⟩ := some_at hxs (i := 1) (by decide)
  exact ⟨open_nids ((hf 0 (by decide)).trans e0), open_nids ((hf 1 (by decide)).trans e1)⟩

set_option maxRecDepth 100000 in
theorem open_zpair {fuel : Nat} {cs : List Value} {x : DataW H × List MemPlace} (h : DataW.trod enc Try.prog w base spare held fuel 77 cs = some x) :
    ∃ hd sa sn sc z, ZPair7 w cs hd sa sn sc z := by
  obtain ⟨xs, m, _, _, hl, hxs, hf⟩ := DataW.trod_struct Try.underlying77 h
  have hl7 : cs.length = 7 := hl.trans (by kernel_rfl)
  match cs, hl7 with
  | [c0, c1, c2, c3, c4, c5, c6], _ =>
    have c74 : Try.prog.cellsOf 74 = 2 := by kernel_rfl
    have c75 : Try.prog.cellsOf 75 = 2 := by kernel_rfl
    have c24 : Try.prog.cellsOf 24 = 1 := by kernel_rfl
    have c23 : Try.prog.cellsOf 23 = 1 := by kernel_rfl
    obtain ⟨y0, e0⟩ := some_at hxs (i := 0) (by decide)
    obtain ⟨y1, e1⟩ := some_at hxs (i := 1) (by decide)
    obtain ⟨y2, e2⟩ := some_at hxs (i := 2) (by decide)
    obtain ⟨y3, e3⟩ := some_at hxs (i := 3) (by decide)
    have f0 : DataW.trod enc Try.prog w base spare held m 74 (List.take (Try.prog.cellsOf 74) [c0, c1, c2, c3, c4, c5, c6]) = xs[0]? := hf 0 _ rfl
    have f1 : DataW.trod enc Try.prog w base spare held m 24 (List.take (Try.prog.cellsOf 24) [c2, c3, c4, c5, c6]) = xs[1]? := hf 1 _ rfl
    have f2 : DataW.trod enc Try.prog w base spare held m 75 (List.take (Try.prog.cellsOf 75) [c3, c4, c5, c6]) = xs[2]? := hf 2 _ rfl
    have f3 : DataW.trod enc Try.prog w base spare held m 75 (List.take (Try.prog.cellsOf 75) [c5, c6]) = xs[3]? := hf 3 _ rfl
    rw [c74, e0] at f0
    rw [c24, e1] at f1
    rw [c75, e2] at f2
    rw [c75, e3] at f3
    obtain ⟨a0, a1⟩ := open_heads f0
    obtain ⟨k0, rfl, b0⟩ := a0
    obtain ⟨k1, rfl, b1⟩ := a1
    obtain ⟨s0, n0, d0, z0, rfl, r0, l0, i0⟩ := open_nids f1
    obtain ⟨⟨s1, n1, d1, z1, rfl, r1, l1, i1⟩, s2, n2, d2, z2, rfl, r2, l2, i2⟩ := open_two f2
    obtain ⟨⟨s3, n3, d3, z3, rfl, r3, l3, i3⟩, s4, n4, d4, z4, rfl, r4, l4, i4⟩ := open_two f3
    refine ⟨fun i => if i = 0 then k0 else k1, fun q => [s0, s1, s2, s3, s4].getD q none, fun q => [n0, n1, n2, n3, n4].getD q 0, fun q => [d0, d1, d2, d3, d4].getD q 0, fun q => [z0, z1, z2, z3, z4].getD q (fun _ => 0), ?_, ?_, ?_, ?_, ?_, ?_⟩
    · intro i hi
      rcases (by omega : i = 0 ∨ i = 1) with rfl | rfl <;> rfl
    · intro i
      show 0 ≤ (if i = 0 then k0 else k1) ∧ (if i = 0 then k0 else k1) ≤ 4294967295
      split
      · exact b0
      · exact b1
    · intro q hq
      rcases (by omega : q = 0 ∨ q = 1 ∨ q = 2 ∨ q = 3 ∨ q = 4) with rfl | rfl | rfl | rfl | rfl <;> rfl
    · intro q hq
      rcases (by omega : q = 0 ∨ q = 1 ∨ q = 2 ∨ q = 3 ∨ q = 4) with rfl | rfl | rfl | rfl | rfl
      · exact r0
      · exact r1
      · exact r2
      · exact r3
      · exact r4
    · intro q hq
      rcases (by omega : q = 0 ∨ q = 1 ∨ q = 2 ∨ q = 3 ∨ q = 4) with rfl | rfl | rfl | rfl | rfl
      · exact l0
      · exact l1
      · exact l2
      · exact l3
      · exact l4
    · intro q hq
      rcases (by omega : q = 0 ∨ q = 1 ∨ q = 2 ∨ q = 3 ∨ q = 4) with rfl | rfl | rfl | rfl | rfl
      · exact i0
      · exact i1
      · exact i2
      · exact i3
      · exact i4

/-- What the law is told of a []ZPair: nil, empty, or a row. -/
def ZArg (w : World) (a : Option Addr) (n c : Nat) : Prop :=
  (a = none ∧ n = 0 ∧ c = 0) ∨ (n = 0 ∧ ∃ x, a = some x) ∨
  ∃ b o hd sa sn sc z, a = some ⟨b, o, none⟩ ∧ 0 < n ∧ n ≤ maxLen ∧ b < w.heap.size ∧ ZPs w b o n hd sa sn sc z

theorem open_zpairs {fuel : Nat} {a : Option Addr} {n c : Nat} {x : DataW H × List MemPlace} (h : DataW.trod enc Try.prog w base spare held fuel 49 [.slice a n c] = some x) : ZArg w a n c := by
  rcases Deep.open_slice Try.underlying49 h with ⟨hcs, _⟩ | ⟨y, l, cap, m, f, D, Pl, hcs, _, hl, hm, hmm, _, hel⟩
  · simp at hcs
    obtain ⟨rfl, rfl, rfl⟩ := hcs
    exact .inl ⟨rfl, rfl, rfl⟩
  · simp at hcs
    obtain ⟨rfl, rfl, rfl⟩ := hcs
    by_cases h0 : n = 0
    · exact .inr (.inl ⟨h0, y, rfl⟩)
    · have hle : n ≤ m := by rw [hmm]; split <;> omega
      have c77 : Try.prog.cellsOf 77 = 7 := by kernel_rfl
      rw [c77] at hel
      have hev : ∀ p, p < n → ∃ cs, (∀ i, i < 7 → w.cell? ((y.add (p * 7)).add i) = cs[i]?) ∧ ∃ hd sa sn sc z, ZPair7 w cs hd sa sn sc z := fun p hp => by
        obtain ⟨cs, h1, h2⟩ := hel p (by omega)
        obtain ⟨_, _, h3⟩ := World.cells?_some h1
        exact ⟨cs, h3, open_zpair h2⟩
      obtain ⟨cs0, g0, hd0, _, _, _, _, Z0⟩ := hev 0 (by omega)
      have hy := g0 0 (by omega)
      rw [Z0.head 0 (by omega)] at hy
      rw [Deep.add_add] at hy
      have hs : y.spot = none := World.cell?_spot hy
      have hb := cell_lt hy
      obtain ⟨b, o, s⟩ := y
      simp at hs
      subst hs
      have hb' : b < w.heap.size := hb
      have hall : ∀ p, p < n → ∃ hd : Nat → Int, ∃ sa : Nat → Option Addr, ∃ sn sc : Nat → Nat, ∃ z : Nat → Nat → Int,
          (∀ i, i < 2 → w.cell? ⟨b, o + p * 7 + i, none⟩ = some (.int .u32 (hd i))) ∧ (∀ i, 0 ≤ hd i ∧ hd i ≤ 4294967295) ∧ (∀ q, q < 5 → w.cell? ⟨b, o + p * 7 + (2 + q), none⟩ = some (.slice (sa q) (sn q) (sc q))) ∧ (∀ q, q < 5 → URow w (sa q) (sn q) (z q)) ∧ (∀ q, q < 5 → sn q ≤ maxLen) ∧ (∀ q, q < 5 → sa q = none → sc q = 0) := fun p hp => by
        obtain ⟨cs, g, hd, sa, sn, sc, z, Z⟩ := hev p hp
        simp only [WideShapes.add_plain] at g
        exact ⟨hd, sa, sn, sc, z, fun i hi => (g i (by omega)).trans (Z.head i hi), Z.bd, fun q hq => (g (2 + q) (by omega)).trans (Z.sl q hq), Z.row, Z.len, Z.nil⟩
      refine .inr (.inr ⟨b, o, fun p i => if hp : p < n then Classical.choose (hall p hp) i else 0, fun p => if hp : p < n then Classical.choose (Classical.choose_spec (hall p hp)) else fun _ => none,
        fun p => if hp : p < n then Classical.choose (Classical.choose_spec (Classical.choose_spec (hall p hp))) else fun _ => 0,
        fun p => if hp : p < n then Classical.choose (Classical.choose_spec (Classical.choose_spec (Classical.choose_spec (hall p hp)))) else fun _ => 0,
        fun p => if hp : p < n then Classical.choose (Classical.choose_spec (Classical.choose_spec (Classical.choose_spec (Classical.choose_spec (hall p hp))))) else fun _ _ => 0, rfl, by omega, by omega, hb', ?_⟩)
      have hc := fun p (hp : p < n) => Classical.choose_spec (Classical.choose_spec (Classical.choose_spec (Classical.choose_spec (Classical.choose_spec (hall p hp)))))
      refine ⟨fun p hp i hi => ?_, fun p i => ?_, fun p hp q hq => ?_, fun p hp q hq => ?_, fun p hp q hq => ?_, fun p hp q hq => ?_⟩
      · simp only [dif_pos hp]; exact (hc p hp).1 i hi
      · by_cases hp : p < n
        · simp only [dif_pos hp]; exact (hc p hp).2.1 i
        · simp only [dif_neg hp]; omega
      · simp only [dif_pos hp]; exact (hc p hp).2.2.1 q hq
      · simp only [dif_pos hp]; exact (hc p hp).2.2.2.1 q hq
      · simp only [dif_pos hp]; exact (hc p hp).2.2.2.2.1 q hq
      · simp only [dif_pos hp]; exact (hc p hp).2.2.2.2.2 q hq
end

theorem ZPs.kept {w w' : World} {b o n : Nat} {hd : Nat → Nat → Int} {sa : Nat → Nat → Option Addr} {sn sc : Nat → Nat → Nat} {z : Nat → Nat → Nat → Int} (Z : ZPs w b o n hd sa sn sc z) (hb : Below w.heap.size w w') : ZPs w' b o n hd sa sn sc z :=
  ⟨fun p hp i hi => (hb.cell (cell_lt (Z.head p hp i hi))).trans (Z.head p hp i hi), Z.bd, fun p hp q hq => (hb.cell (cell_lt (Z.sl p hp q hq))).trans (Z.sl p hp q hq), fun p hp q hq => (Z.row p hp q hq).kept hb, Z.len, Z.nil⟩

theorem argOK (W0 : World) (a : Option Addr) (n c : Nat) (h : ZArg W0 a n c) : ArgOK W0 (.slice a n c) := by
  rcases h with ⟨rfl, rfl, rfl⟩ | ⟨rfl, x, rfl⟩ | ⟨b, o, hd, sa, sn, sc, z, rfl, h0, hm, hb, Z⟩
  · refine ⟨True, (pairs_none none 0 W0).mono ?_, fun _ w hw => (toPairs_nil w).mono ?_⟩
    · rintro e u ⟨t, rfl, t0, t1, rfl⟩
      exact ⟨t, rfl, t0, t1, fun _ => trivial, rfl⟩
    · rintro e u ⟨rfl, rfl⟩
      exact ⟨_, 0, [], rfl, ⟨by omega, .inl ⟨rfl, rfl⟩⟩, Below.refl _ _⟩
  · refine ⟨True, (pairs_none (some x) c W0).mono ?_, fun _ w hw => (toPairs_row x 0 c (fun _ _ => 0) (fun _ _ => none) (fun _ _ => 0) (fun _ _ => 0) (fun _ _ _ => 0) w (by omega) (fun h => absurd h (by omega))).mono ?_⟩
    · rintro e u ⟨t, rfl, t0, t1, rfl⟩
      exact ⟨t, rfl, t0, t1, fun _ => trivial, rfl⟩
    · rintro e u ⟨cs, rfl, hB, hG, hbel⟩
      exact ⟨_, 0, cs, rfl, ⟨by omega, .inr ⟨_, rfl, Nat.le_refl _, hB.lt, hB, hG⟩⟩, hbel⟩
  · refine ⟨n ≤ 1048576 ∧ ∀ p, p < n → ∀ q, q < 5 → sn p q ≤ 1048576, (pairs_some b o n c hd sa sn sc z W0 hm Z), fun hS w hw => (toPairs_row ⟨b, o, none⟩ n c hd sa sn sc z w hS.1 (fun _ => ⟨b, o, rfl, Nat.lt_of_lt_of_le hb hw.size, Z.kept hw, hS.2⟩)).mono ?_⟩
    rintro e u ⟨cs, rfl, hB, hG, hbel⟩
    exact ⟨_, n, cs, rfl, ⟨hS.1, .inr ⟨_, rfl, Nat.le_refl _, hB.lt, hB, hG⟩⟩, hbel⟩

theorem zz34_any (id : Int) (a1 : Option Addr) (n1 c1 : Nat) (a2 : Option Addr) (n2 c2 : Nat) (w : World) (h1 : ZArg w a1 n1 c1) (h2 : ZArg w a2 n2 c2) :
    Calls Try.prog 34 #[.int .u32 id, .slice a1 n1 c1, .slice a2 n2 c2] w fun e w' => IsBool e ∧ w' = w := by
  have e1 : n1 = 0 ∨ ∃ b o hd sa sn sc z, a1 = some ⟨b, o, none⟩ ∧ n1 ≤ maxLen ∧ ZPs w b o n1 hd sa sn sc z := by
    rcases h1 with ⟨_, h, _⟩ | ⟨h, _⟩ | ⟨b, o, hd, sa, sn, sc, z, e, _, hm, _, Z⟩
    · exact .inl h
    · exact .inl h
    · exact .inr ⟨b, o, hd, sa, sn, sc, z, e, hm, Z⟩
  have e2 : n2 = 0 ∨ ∃ b o hd sa sn sc z, a2 = some ⟨b, o, none⟩ ∧ n2 ≤ maxLen ∧ ZPs w b o n2 hd sa sn sc z := by
    rcases h2 with ⟨_, h, _⟩ | ⟨h, _⟩ | ⟨b, o, hd, sa, sn, sc, z, e, _, hm, _, Z⟩
    · exact .inl h
    · exact .inl h
    · exact .inr ⟨b, o, hd, sa, sn, sc, z, e, hm, Z⟩
  rcases e1 with rfl | ⟨b1, o1, hd1, sa1, sn1, sc1, z1, rfl, m1, Z1⟩
  · rcases e2 with rfl | ⟨b2, o2, hd2, sa2, sn2, sc2, z2, rfl, m2, Z2⟩
    · exact zz34_nn id a1 c1 a2 c2 w
    · exact zz34_sn id a1 c1 b2 o2 n2 c2 hd2 sa2 sn2 sc2 z2 w m2 Z2
  · rcases e2 with rfl | ⟨b2, o2, hd2, sa2, sn2, sc2, z2, rfl, m2, Z2⟩
    · exact zz34_ns id b1 o1 n1 c1 hd1 sa1 sn1 sc1 z1 a2 c2 w m1 Z1
    · exact zz34_ss id b1 o1 n1 c1 hd1 sa1 sn1 sc1 z1 b2 o2 n2 c2 hd2 sa2 sn2 sc2 z2 w m1 Z1 m2 Z2

/-- The law, whatever the arguments. -/
theorem law (id : Int) (a1 : Option Addr) (n1 c1 : Nat) (a2 : Option Addr) (n2 c2 : Nat) (w : World) (h1 : ZArg w a1 n1 c1) (h2 : ZArg w a2 n2 c2) :
    Calls Try.prog 7 #[.int .u32 id, .slice a1 n1 c1, .slice a2 n2 c2] w fun e w' => e = .returned (.bool true) ∧ Below w.heap.size w w' := by
  have hz := zz34_any id a1 n1 c1 a2 n2 c2 w h1 h2
  have A1 := argOK w a1 n1 c1 h1
  have A2 := argOK w a2 n2 c2 h2
  rcases h2 with ⟨_, rfl, _⟩ | ⟨rfl, _⟩ | ⟨b, o, hd, sa, sn, sc, z, rfl, _, hm, hb, Z⟩
  · exact law_any id _ a2 0 c2 (by omega) (fun _ _ => 0) w (fun p hp => absurd hp (by omega)) (fun _ _ => by omega) hz A1 A2
  · exact law_any id _ a2 0 c2 (by omega) (fun _ _ => 0) w (fun p hp => absurd hp (by omega)) (fun _ _ => by omega) hz A1 A2
  · exact law_any id _ _ n2 c2 (by unfold maxLen at hm; omega) hd w (fun p hp => ⟨b, o, rfl, hb, fun p i hp hi => Z.head p hp i hi⟩) Z.bd hz A1 A2
end Go.Proofs.Qxb6601243a
