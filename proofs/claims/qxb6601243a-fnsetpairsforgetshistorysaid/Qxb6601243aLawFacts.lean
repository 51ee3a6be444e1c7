/-
  What the law's walk is told: the pairs' value, what is kept of it, the two maps that read as one datum.
-/
import Derived.Test.Qxb6601243aSet
import Derived.Test.Qxb6601243aBytes
namespace Go.Proofs.Qxb6601243a
open Go.RowKit

/-- What 'toPairs' gives: nil, or a row of n elements in blocks from lo on, below hi. -/
def PV (w : World) (lo hi : Nat) (v : Value) (n : Nat) (cs : List Value) : Prop :=
  n ≤ 1048576 ∧ ((v = .slice none 0 0 ∧ n = 0) ∨ ∃ pb, v = .slice (some ⟨pb, 0, none⟩) n n ∧ lo ≤ pb ∧ pb < hi ∧ BlockAt w pb cs ∧ GoodPairs w (pb + 1) hi n cs)

theorem PV.kept {w w' : World} {lo hi n : Nat} {v : Value} {cs : List Value} (h : PV w lo hi v n cs) (hk : ∀ k, lo ≤ k → k < hi → w'.heap[k]? = w.heap[k]?) : PV w' lo hi v n cs := by
  obtain ⟨hn, h | ⟨pb, e, h1, h2, hP, hG⟩⟩ := h
  · exact ⟨hn, .inl h⟩
  · refine ⟨hn, .inr ⟨pb, e, h1, h2, (hk pb h1 h2).trans hP, hG.len, hG.head, fun p hp q hq => ?_⟩⟩
    obtain ⟨x, hx, hg⟩ := hG.sl p hp q hq
    exact ⟨x, hx, hg.up (Nat.le_refl _) (fun k a b => hk k (by omega) b)⟩

theorem PV.sameCont {w w' : World} {lo hi n : Nat} {v : Value} {cs : List Value} (h : PV w lo hi v n cs) (hk : ∀ k, lo ≤ k → k < hi → w'.heap[k]? = w.heap[k]?) (id : Int) : ∀ t, t ≤ 2 * n → cont w' cs id t = cont w cs id t := by
  intro t
  induction t with
  | zero => intro _; rfl
  | succ t ih =>
    intro ht
    obtain ⟨_, ⟨_, rfl⟩ | ⟨pb, _, h1, _, _, hG⟩⟩ := h
    · omega
    · obtain ⟨_, _, hr⟩ := hG.watAt (t / 2) (by omega) (t % 2) (by omega)
      have hr' := hr.up (w' := w') (Nat.le_refl _) (fun k a b => hk k (by omega) b)
      rw [cont, cont, hr'.is, ih (by omega)]

theorem set_any (nb : Nat) (id : Int) (m : Option Nat) (w : World) (v : Value) (n lo hi : Nat) (cs : List Value) (N : NodeAt w nb id m) (hm : AnyMap w m) (hV : PV w lo hi v n cs) (hhi : hi ≤ w.heap.size)
    (hnb : nb < lo ∨ hi ≤ nb) (hmb : ∀ b, m = some b → b < lo ∨ hi ≤ b) :
    Calls Try.prog 29 #[.pointer (some ⟨nb, 0, none⟩), v] w fun e w' => e = .returned (.tuple #[]) ∧ ∃ m', St nb id m w w' m' (cont w cs id (2 * n)) (2 * n) := by
  obtain ⟨hn, ⟨rfl, rfl⟩ | ⟨pb, rfl, h1, h2, hP, hG⟩⟩ := hV
  · exact set_nil nb id m w N hm
  · exact set_row nb pb n hi id m cs w N hm hP hG hhi hn (by omega) (by omega) (fun b e => by have := hmb b e; omega)

theorem cont_isMap (w : World) (cs : List Value) (id : Int) : ∀ t, Maps.IsMap (cont w cs id t)
  | 0 => ⟨[], rfl⟩
  | t + 1 => by
    rw [cont]
    split
    · exact (cont_isMap w cs id t).put _ _
    · exact cont_isMap w cs id t
/-- An element of the map is nil, or one of the rows. -/
theorem cont_val (w : World) (cs : List Value) (id : Int) (kl : Lit) (x : Value) : ∀ t, (cont w cs id t).atKey kl (.held (.slice none 0 0)) = .held x → x = .slice none 0 0 ∨ ∃ u, u < t ∧ x = watOf cs (u / 2) (u % 2)
  | 0, h => by
    left
    have : (.held (.slice none 0 0) : DataW Value) = .held x := h
    cases this
    rfl
  | t + 1, h => by
    rw [cont] at h
    split at h
    · by_cases e : kl = .int .u32 (headOf cs (t / 2) (t % 2))
      · subst e
        rw [Maps.atKey_put_same (cont_isMap w cs id t) (show WideAt.IsKeyLit (.int .u32 _) from trivial)] at h
        cases h
        exact .inr ⟨t, by omega, rfl⟩
      · rw [Maps.atKey_put_other e] at h
        rcases cont_val w cs id kl x t h with h | ⟨u, hu, hx⟩
        · exact .inl h
        · exact .inr ⟨u, by omega, hx⟩
    · rcases cont_val w cs id kl x t h with h | ⟨u, hu, hx⟩
      · exact .inl h
      · exact .inr ⟨u, by omega, hx⟩

theorem MapIs.len {w : World} {m : Option Nat} {D : DataW Value} {k : Nat} (h : MapIs w m D k) (ty : TypeId) : (Builtin.len_ #[65] ty #[.map m]).run Try.prog w = .ok (.int .i64 (Maps.size D)) w := by
  rcases h with ⟨rfl, rfl⟩ | ⟨b, rfl, h⟩
  · exact Maps.len_nil Try.underlying65 ty
  · exact h.len Try.underlying65 ty

/-- The look-up: what stands at the key is what the datum says. -/
theorem MapIs.look {w : World} {m : Option Nat} {D : DataW Value} {k : Nat} (h : MapIs w m D k) (hd : Int) (bd : 0 ≤ hd ∧ hd ≤ 4294967295) :
    ∃ x, (Instr.lookup 65 (.map m) (.int .u32 hd) true).run Try.prog w = .ok (.tuple #[x, .bool (Maps.has D (.int .u32 hd))]) w ∧ D.atKey (.int .u32 hd) (.held (.slice none 0 0)) = .held x := by
  have hw : (Lit.int .u32 hd).wf = true := by
    have e1 : IntKind.u32.min = 0 := rfl
    have e2 : IntKind.u32.max = 4294967295 := rfl
    simp only [Lit.wf, e1, e2, Bool.and_eq_true, decide_eq_true_eq]
    exact bd
  have hkey := Maps.keyOf_int_mk Try.underlying39 hw
  rcases h with ⟨rfl, rfl⟩ | ⟨b, rfl, h⟩
  · exact ⟨.slice none 0 0, Maps.look_nil true key39 Try.underlying65 (zero40 w) hkey, rfl⟩
  · obtain ⟨v, ps, hrun, hv⟩ := h.look_ok key39 Try.underlying65 (zero40 w) (zd := .held (.slice none 0 0)) (zp := []) rfl hkey
    refine ⟨v, hrun, ?_⟩
    have : some ((.held v : DataW Value), ([] : List MemPlace)) = some (D.atKey (.int .u32 hd) (.held (.slice none 0 0)), ps) := hv
    simp only [Option.some.injEq, Prod.mk.injEq] at this
    exact this.1.symm

/-- Two maps that read as one: one look-up for both. -/
theorem look_both {w : World} {ma mb : Option Nat} {D : DataW Value} {ka kb : Nat} (ha : MapIs w ma D ka) (hb : MapIs w mb D kb) (hd : Int) (bd : 0 ≤ hd ∧ hd ≤ 4294967295) :
    ∃ x, (Instr.lookup 65 (.map ma) (.int .u32 hd) true).run Try.prog w = .ok (.tuple #[x, .bool (Maps.has D (.int .u32 hd))]) w ∧ (Instr.lookup 65 (.map mb) (.int .u32 hd) true).run Try.prog w = .ok (.tuple #[x, .bool (Maps.has D (.int .u32 hd))]) w ∧ D.atKey (.int .u32 hd) (.held (.slice none 0 0)) = .held x := by
  obtain ⟨x, h1, e1⟩ := ha.look hd bd
  obtain ⟨y, h2, e2⟩ := hb.look hd bd
  rw [e1] at e2
  cases e2
  exact ⟨x, h1, h2, e1⟩

/-- What is found is a row that can be read. -/
theorem PV.found {w : World} {lo hi n : Nat} {v : Value} {cs : List Value} (h : PV w lo hi v n cs) (id : Int) (w0 : World) (kl : Lit) (x : Value) (hx : (cont w0 cs id (2 * n)).atKey kl (.held (.slice none 0 0)) = .held x) : ∃ l u zs, NRow w l u x zs := by
  rcases cont_val w0 cs id kl x (2 * n) hx with rfl | ⟨t, ht, rfl⟩
  · exact ⟨0, 0, [], nrow_nil w 0 0⟩
  · obtain ⟨_, ⟨_, rfl⟩ | ⟨pb, _, _, _, _, hG⟩⟩ := h
    · omega
    · obtain ⟨_, _, hr⟩ := hG.watAt (t / 2) (by omega) (t % 2) (by omega)
      exact ⟨_, _, _, hr⟩

theorem MapIs.kept {w w' : World} {m : Option Nat} {D : DataW Value} {k : Nat} (h : MapIs w m D k) (hk : ∀ b, m = some b → w'.heap[b]? = w.heap[b]?) : MapIs w' m D k := by
  rcases h with h | ⟨b, e, es, c, hb, r⟩
  · exact .inl h
  · exact .inr ⟨b, e, es, c, (hk b e).trans hb, r⟩
theorem MapIs.lt {w : World} {D : DataW Value} {k b : Nat} (h : MapIs w (some b) D k) : b < w.heap.size := by
  rcases h with ⟨e, _⟩ | ⟨b', e, h⟩
  · cases e
  · cases e; exact h.lt
theorem MapIs.any {w : World} {m : Option Nat} {D : DataW Value} {k : Nat} (h : MapIs w m D k) : AnyMap w m := by
  rcases h with ⟨e, _⟩ | ⟨b, e, h⟩
  · exact .inl e
  · exact .inr ⟨b, k, D, e, h⟩
end Go.Proofs.Qxb6601243a
