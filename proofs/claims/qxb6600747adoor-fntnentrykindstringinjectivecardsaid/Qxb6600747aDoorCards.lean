/-
  DERIVED. GIVEN WITH THE SEED: THE CARDS: each row of Qxb6600747aDoorRows.lean that lists a variable, with what it lists TIED to the program's text (the seventh form; the later family's looks); each row that meets fmt, with fmt's text TOLD by the authors' own Lean function (tested against real Go, not proved from fmt's source: count such statements apart). THE CARD IS WHAT COUNTS. Prove the row's statement (the work); the ties are given (Qxb6600747aDoorTie.lean); close each card by the builder's one call (the guide's Derived/Test/ToyasCard.lean, 'card_holds'). Laid BY PROGRAM, IN A SANDBOX (cutbox-door.mjs). By AI agents, Wed Nov 11 2026. No macro, syntax, notation, axiom, sorry.
-/
import Derived.Test.Qxb6600747aDoorRows
import GoSem.ClaimSeven
namespace Go.Proofs.Qxb6600747aDoor
namespace Rows

/-- THE TIED CARD OF 'zzlaws_root_b1.FnRoleStringInjective'. -/
def fnRoleStringInjectiveCard : Claim7 := { stood := { row := fnRoleStringInjectiveRow, standIns := [], harness := (true, "d81074797aaa8aad5292d3ab1708ef7022aeea09d491078b6fe73eb0c92eb27b"), looks := false }, kinds := [], alts := [], laidByText := true, laidKinds := [.data, .data, .data], laidTests := true, laidLooks := .later }
def FnRoleStringInjectiveCardSaid : Prop := Claim7.holds Tryd.pinned (.plain (OpenSpec.ofChange fnRoleStringInjectiveSpec)) fnRoleStringInjectiveCard

/-- THE TIED CARD OF 'zzlaws_root_b1.FnTNEntryKindStringInjective'. -/
def fnTNEntryKindStringInjectiveCard : Claim7 := { stood := { row := fnTNEntryKindStringInjectiveRow, standIns := [], harness := (true, "d81074797aaa8aad5292d3ab1708ef7022aeea09d491078b6fe73eb0c92eb27b"), looks := false }, kinds := [], alts := [], laidByText := true, laidKinds := [.data, .data, .data], laidTests := true, laidLooks := .later }
def FnTNEntryKindStringInjectiveCardSaid : Prop := Claim7.holds Tryd.pinned (.plain (OpenSpec.ofChange fnTNEntryKindStringInjectiveSpec)) fnTNEntryKindStringInjectiveCard
end Rows
end Go.Proofs.Qxb6600747aDoor
