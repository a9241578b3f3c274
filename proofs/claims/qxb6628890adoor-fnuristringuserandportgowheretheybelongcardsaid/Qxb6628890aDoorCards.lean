/-
  DERIVED. GIVEN WITH THE SEED: THE CARDS: each row of Qxb6628890aDoorRows.lean that lists a variable, with what it lists TIED to the program's text (the seventh form; the later family's looks); each row that meets fmt, with fmt's text TOLD by the authors' own Lean function (tested against real Go, not proved from fmt's source: count such statements apart). THE CARD IS WHAT COUNTS. Prove the row's statement (the work); the ties are given (Qxb6628890aDoorTie.lean); close each card by the builder's one call (the guide's Derived/Test/ToyasCard.lean, 'card_holds'). Laid BY PROGRAM, IN A SANDBOX (cutbox-door.mjs). By AI agents, Wed Nov 11 2026. No macro, syntax, notation, axiom, sorry.
-/
import Derived.Test.Qxb6628890aDoorRows
import GoSem.ClaimSeven
namespace Go.Proofs.Qxb6628890aDoor
namespace Rows

/-- THE TIED CARD OF 'zzlaws_message_b1.FnURIStringCutsAtAnyParam'. -/
def fnURIStringCutsAtAnyParamCard : Claim7 := { stood := { row := fnURIStringCutsAtAnyParamRow, standIns := [], harness := (true, "776f7f9d6761fe68a3f9531d3ae3b43148881d191a4401d1708194c879ae9bb9"), looks := false }, kinds := [], alts := [], laidByText := true, laidKinds := [.data, .data, .data], laidTests := true, laidLooks := .later }
def FnURIStringCutsAtAnyParamCardSaid : Prop := Claim7.holds Tryd.pinned (.plain (OpenSpec.ofChange fnURIStringCutsAtAnyParamSpec)) fnURIStringCutsAtAnyParamCard

/-- THE TIED CARD OF 'zzlaws_message_b1.FnURIStringUserAndPortGoWhereTheyBelong'. -/
def fnURIStringUserAndPortGoWhereTheyBelongCard : Claim7 := { stood := { row := fnURIStringUserAndPortGoWhereTheyBelongRow, standIns := [], harness := (true, "776f7f9d6761fe68a3f9531d3ae3b43148881d191a4401d1708194c879ae9bb9"), looks := false }, kinds := [], alts := [], laidByText := true, laidKinds := [.data, .data, .data], laidTests := true, laidLooks := .later }
def FnURIStringUserAndPortGoWhereTheyBelongCardSaid : Prop := Claim7.holds Tryd.pinned (.plain (OpenSpec.ofChange fnURIStringUserAndPortGoWhereTheyBelongSpec)) fnURIStringUserAndPortGoWhereTheyBelongCard
end Rows
end Go.Proofs.Qxb6628890aDoor
