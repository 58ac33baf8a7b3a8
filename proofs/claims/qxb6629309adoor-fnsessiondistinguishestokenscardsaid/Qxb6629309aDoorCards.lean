/-
  DERIVED. GIVEN WITH THE SEED: THE CARDS: each row of Qxb6629309aDoorRows.lean that lists a variable, with what it lists TIED to the program's text (the seventh form; the later family's looks); each row that meets fmt, with fmt's text TOLD by the authors' own Lean function (tested against real Go, not proved from fmt's source: count such statements apart). THE CARD IS WHAT COUNTS. Prove the row's statement (the work); the ties are given (Qxb6629309aDoorTie.lean); close each card by the builder's one call (the guide's Derived/Test/ToyasCard.lean, 'card_holds'). Laid BY PROGRAM, IN A SANDBOX (cutbox-door.mjs). By AI agents, Wed Nov 11 2026. No macro, syntax, notation, axiom, sorry.
-/
import Derived.Test.Qxb6629309aDoorRows
import GoSem.ClaimSeven
namespace Go.Proofs.Qxb6629309aDoor
namespace Rows

/-- THE TIED CARD OF 'zzlaws_root_b1.FnSessionTextNamesToken'. -/
def fnSessionTextNamesTokenCard : Claim7 := { stood := { row := fnSessionTextNamesTokenRow, standIns := [], harness := (true, "f2fce4a5c9f6737b1ff2d6b61b84c28f1b8aa4c4d747efb0c2407aa4672f97d3"), looks := false }, kinds := [], alts := [], laidByText := true, laidKinds := [.data, .data, .data], laidTests := true, laidLooks := .later }
def FnSessionTextNamesTokenCardSaid : Prop := Claim7.holds Tryd.pinned (.plain (OpenSpec.ofChange fnSessionTextNamesTokenSpec)) fnSessionTextNamesTokenCard

/-- THE TIED CARD OF 'zzlaws_root_b1.FnSessionDistinguishesTokens'. -/
def fnSessionDistinguishesTokensCard : Claim7 := { stood := { row := fnSessionDistinguishesTokensRow, standIns := [], harness := (true, "f2fce4a5c9f6737b1ff2d6b61b84c28f1b8aa4c4d747efb0c2407aa4672f97d3"), looks := false }, kinds := [], alts := [], laidByText := true, laidKinds := [.data, .data, .data], laidTests := true, laidLooks := .later }
def FnSessionDistinguishesTokensCardSaid : Prop := Claim7.holds Tryd.pinned (.plain (OpenSpec.ofChange fnSessionDistinguishesTokensSpec)) fnSessionDistinguishesTokensCard
end Rows
end Go.Proofs.Qxb6629309aDoor
