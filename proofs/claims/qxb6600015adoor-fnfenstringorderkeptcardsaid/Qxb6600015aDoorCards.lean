/-
  DERIVED. GIVEN WITH THE SEED: THE CARDS: each row of Qxb6600015aDoorRows.lean that lists a variable, with what it lists TIED to the program's text (the seventh form; the later family's looks); each row that meets fmt, with fmt's text TOLD by the authors' own Lean function (tested against real Go, not proved from fmt's source: count such statements apart). THE CARD IS WHAT COUNTS. Prove the row's statement (the work); the ties are given (Qxb6600015aDoorTie.lean); close each card by the builder's one call (the guide's Derived/Test/ToyasCard.lean, 'card_holds'). Laid BY PROGRAM, IN A SANDBOX (cutbox-door.mjs). By AI agents, Wed Nov 11 2026. No macro, syntax, notation, axiom, sorry.
-/
import Derived.Test.Qxb6600015aDoorRows
import GoSem.ClaimSeven
namespace Go.Proofs.Qxb6600015aDoor
namespace Rows

/-- THE TIED CARD OF 'zzlaws_money_b1.FnFenStringParsesBack'. -/
def fnFenStringParsesBackCard : Claim7 := { stood := { row := fnFenStringParsesBackRow, standIns := [], harness := (true, "9541f07f7e24fb8e53a052690aee8fbc77017dad2c8c42c8079f3e3af26aeb4e"), looks := false }, kinds := [], alts := [], laidByText := true, laidKinds := [.data, .data, .data], laidTests := true, laidLooks := .later }
def FnFenStringParsesBackCardSaid : Prop := Claim7.holds Tryd.pinned (.plain (OpenSpec.ofChange fnFenStringParsesBackSpec)) fnFenStringParsesBackCard

/-- THE TIED CARD OF 'zzlaws_money_b1.FnFenStringNegationSymmetric'. -/
def fnFenStringNegationSymmetricCard : Claim7 := { stood := { row := fnFenStringNegationSymmetricRow, standIns := [], harness := (true, "9541f07f7e24fb8e53a052690aee8fbc77017dad2c8c42c8079f3e3af26aeb4e"), looks := false }, kinds := [], alts := [], laidByText := true, laidKinds := [.data, .data, .data], laidTests := true, laidLooks := .later }
def FnFenStringNegationSymmetricCardSaid : Prop := Claim7.holds Tryd.pinned (.plain (OpenSpec.ofChange fnFenStringNegationSymmetricSpec)) fnFenStringNegationSymmetricCard

/-- THE TIED CARD OF 'zzlaws_money_b1.FnFenStringOrderKept'. -/
def fnFenStringOrderKeptCard : Claim7 := { stood := { row := fnFenStringOrderKeptRow, standIns := [], harness := (true, "9541f07f7e24fb8e53a052690aee8fbc77017dad2c8c42c8079f3e3af26aeb4e"), looks := false }, kinds := [], alts := [], laidByText := true, laidKinds := [.data, .data, .data], laidTests := true, laidLooks := .later }
def FnFenStringOrderKeptCardSaid : Prop := Claim7.holds Tryd.pinned (.plain (OpenSpec.ofChange fnFenStringOrderKeptSpec)) fnFenStringOrderKeptCard
end Rows
end Go.Proofs.Qxb6600015aDoor
