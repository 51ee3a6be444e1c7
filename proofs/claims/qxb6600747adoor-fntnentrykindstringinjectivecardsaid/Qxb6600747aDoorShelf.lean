/-
  strconv.Itoa at this program: the shelf's contract, laid by the shelf's one command. No walk.
-/
import Derived.Shelf.Strconv.Itoa3
import Derived.Shelf.Lay
import Derived.Ground.NamesProg
import Derived.Test.Qxb6600747aDoorRows
namespace Go.Proofs
open Go.Shelf

shelf_lay LaysM.n171 Nm 171 at Tryd as Tryd.laysItoa

namespace Qxb6600747aDoor
/-- The table's name, as the row lists it. -/
def tabName : String := (Rows.fnRoleStringInjectiveRow.laid.map (·.1)).getD 2 ""
/-- The table of powers of ten is as its initialiser lays it. -/
def Tab (w : World) : Prop := Lib.TabIs Tryd.prog w tabName .u64 Lib.pow10Tab

theorem itoa_any (n : Int) (h0 : -9223372036854775808 ≤ n) (h1 : n ≤ 9223372036854775807) (w : World) (htab : Tab w) :
    Calls Tryd.prog 7 #[.int .i64 n] w fun e w' => e = .returned (.string ⟨(Lib.itoa n).toArray⟩) ∧ ∃ k os, w' = Sort.grow (w.drewN k) os := Any.strconv_Itoa Tryd.laysItoa n h0 h1 w htab
end Qxb6600747aDoor
end Go.Proofs
