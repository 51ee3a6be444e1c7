/-
  What SetPairs fills the map with; the map's laws at this program; what is kept.
-/
import Derived.Test.Qxb6601243aToPairs
import Derived.Maps.OwnSet
namespace Go.Proofs.Qxb6601243a
open Go.RowKit
open Go.ChangeMaps (setBlock)
open Go.Maps (Keyed)

/-- An element of the map reads as itself. -/
def R (v : Value) : Option (DataW Value × List MemPlace) := some (.held v, [])
theorem key39 : Keyed Try.prog 39 := Maps.int_keyed Try.underlying39
theorem zero40 (w : World) : (zeroValue 40).run Try.prog w = .ok (.slice none 0 0) w := by kernel_rfl

/-- The map's value m, in w: nil and empty, or a block that reads as D. -/
def MapIs (w : World) (m : Option Nat) (D : DataW Value) (k : Nat) : Prop :=
  (m = none ∧ D = .map []) ∨ ∃ b, m = some b ∧ w.ownsMap Try.prog 39 R b k D

/-- The row behind a slice's value, as w holds it. -/
def rowOf (w : World) (v : Value) : List Int :=
  match v with
  | .slice (some ⟨g, _, _⟩) n _ => (List.range n).map fun i => match w.cell? ⟨g, i, none⟩ with
    | some (.int _ z) => z
    | _ => 0
  | _ => []
theorem NRow.is {w : World} {lo hi : Nat} {v : Value} {zs : List Int} (h : NRow w lo hi v zs) : rowOf w v = zs := by
  obtain ⟨_, ⟨rfl, rfl⟩ | ⟨g, rfl, _, _, hc⟩⟩ := h
  · rfl
  · unfold rowOf
    apply List.ext_getElem?
    intro i
    by_cases hi : i < zs.length
    · simp only [List.getElem?_map]
      rw [List.getElem?_range hi]
      simp only [Option.map_some]
      rw [hc i hi, List.getD_eq_getElem?_getD, List.getElem?_eq_getElem hi]
      rfl
    · rw [List.getElem?_eq_none (by simp; omega), List.getElem?_eq_none (by omega)]

def headOf (cs : List Value) (p i : Nat) : Int := match cs.getD (p * 7 + i) (.int .u32 0) with
  | .int _ h => h
  | _ => 0
def watOf (cs : List Value) (p i : Nat) : Value := cs.getD (p * 7 + (5 + i)) (.slice none 0 0)

/-- What the map holds behind the first t of the pairs' sides. -/
def cont (w : World) (cs : List Value) (id : Int) : Nat → DataW Value
  | 0 => .map []
  | t + 1 => if hasN (rowOf w (watOf cs (t / 2) (t % 2))) id then (cont w cs id t).put (.int .u32 (headOf cs (t / 2) (t % 2))) (.held (watOf cs (t / 2) (t % 2))) else cont w cs id t

theorem GoodPairs.headAt {w : World} {lo hi n : Nat} {cs : List Value} (h : GoodPairs w lo hi n cs) (p : Nat) (hp : p < n) (i : Nat) (hi' : i < 2) : cs[p * 7 + i]? = some (.int .u32 (headOf cs p i)) ∧ 0 ≤ headOf cs p i ∧ headOf cs p i ≤ 4294967295 := by
  obtain ⟨v, hv, x, rfl, h0, h1⟩ := h.head p hp i hi'
  have e : headOf cs p i = x := by unfold headOf; rw [List.getD_eq_getElem?_getD, hv]; rfl
  rw [e]
  exact ⟨hv, h0, h1⟩
theorem GoodPairs.watAt {w : World} {lo hi n : Nat} {cs : List Value} (h : GoodPairs w lo hi n cs) (p : Nat) (hp : p < n) (i : Nat) (hi' : i < 2) : cs[p * 7 + (5 + i)]? = some (watOf cs p i) ∧ (∃ a b c, watOf cs p i = .slice a b c) ∧ NRow w lo hi (watOf cs p i) (rowOf w (watOf cs p i)) := by
  obtain ⟨v, hv, hs, zs, hz⟩ := h.sl p hp (3 + i) (by omega)
  have hv' : cs[p * 7 + (5 + i)]? = some v := by rw [show p * 7 + (5 + i) = p * 7 + (2 + (3 + i)) by omega]; exact hv
  have e : watOf cs p i = v := by unfold watOf; rw [List.getD_eq_getElem?_getD, hv']; rfl
  rw [e, hz.is]
  exact ⟨hv', hs, hz⟩

/-- w' is w but for the blocks nb and m, and new ones. -/
structure Kept (nb : Nat) (m : Option Nat) (w w' : World) : Prop where
  os : w'.os = w.os
  tape : w'.tape = w.tape
  output : w'.output = w.output
  size : w.heap.size ≤ w'.heap.size
  block : ∀ k, k < w.heap.size → k ≠ nb → some k ≠ m → w'.heap[k]? = w.heap[k]?
theorem Kept.refl (nb : Nat) (m : Option Nat) (w : World) : Kept nb m w w := ⟨rfl, rfl, rfl, Nat.le_refl _, fun _ _ _ _ => rfl⟩
theorem Kept.drewN {nb : Nat} {m : Option Nat} {w w' : World} (h : Kept nb m w w') (n : Nat) : Kept nb m w (w'.drewN n) := ⟨h.os, h.tape, h.output, h.size, h.block⟩
theorem Kept.alloc {nb : Nat} {m : Option Nat} {w w' : World} (h : Kept nb m w w') (o : Obj) : Kept nb m w (w'.alloc o) := by
  refine ⟨h.os, h.tape, h.output, ?_, fun k hk h1 h2 => ?_⟩
  · show w.heap.size ≤ (w'.heap.push o).size
    rw [Array.size_push]; have := h.size; omega
  · show (w'.heap.push o)[k]? = _
    rw [Array.getElem?_push, if_neg (by have := h.size; omega)]
    exact h.block k hk h1 h2
theorem Kept.setCell {nb : Nat} {m : Option Nat} {w w' : World} (h : Kept nb m w w') (i : Nat) (v : Value) : Kept nb m w (w'.setCell ⟨nb, i, none⟩ v) :=
  ⟨h.os, h.tape, h.output, by show _ ≤ (w'.heap.modify _ _).size; rw [Array.size_modify]; exact h.size, fun k hk h1 h2 => (heap_setCell_other w' ⟨nb, i, none⟩ k v h1).trans (h.block k hk h1 h2)⟩
theorem Kept.grown {nb : Nat} {m : Option Nat} {w w' w'' : World} {b : Nat} (h : Kept nb m w w') (hg : w'.grownBy w'' (some b)) (hb : m = some b ∨ w.heap.size ≤ b) : Kept nb m w w'' := by
  obtain ⟨e1, e2, e3, hs, hk⟩ := hg
  refine ⟨e1.trans h.os, e2.trans h.tape, e3.trans h.output, Nat.le_trans h.size hs, fun k hlt h1 h2 => ?_⟩
  refine (hk k (Nat.lt_of_lt_of_le hlt h.size) ?_).trans (h.block k hlt h1 h2)
  rintro e
  cases e
  rcases hb with hb | hb
  · exact h2 hb.symm
  · omega
theorem Kept.below {nb B : Nat} {m : Option Nat} {w0 w w' : World} (h : Kept nb m w w') (hb : Below B w0 w) (h1 : B ≤ nb) (h2 : ∀ b, m = some b → B ≤ b) (hB : B ≤ w.heap.size) : Below B w0 w' :=
  hb.trans ⟨h.os, h.tape, h.output, h.size, fun k hk => h.block k (by omega) (by omega) (fun e => by have := h2 k e.symm; omega)⟩
end Go.Proofs.Qxb6601243a
