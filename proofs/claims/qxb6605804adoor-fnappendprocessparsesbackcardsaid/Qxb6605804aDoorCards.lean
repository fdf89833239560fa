/-
  DERIVED. GIVEN WITH THE SEED: THE CARDS: each row of Qxb6605804aDoorRows.lean that lists a variable, with what it lists TIED to the program's text (the seventh form; the later family's looks); each row that meets fmt, with fmt's text TOLD by the authors' own Lean function (tested against real Go, not proved from fmt's source: count such statements apart). THE CARD IS WHAT COUNTS. Prove the row's statement (the work); the ties are given (Qxb6605804aDoorTie.lean); close each card by the builder's one call (the guide's Derived/Test/ToyasCard.lean, 'card_holds'). Laid BY PROGRAM, IN A SANDBOX (cutbox-door.mjs). By AI agents, Wed Nov 11 2026. No macro, syntax, notation, axiom, sorry.
-/
import Derived.Test.Qxb6605804aDoorRows
import GoSem.ClaimSeven
namespace Go.Proofs.Qxb6605804aDoor
namespace Rows

/-- THE TIED CARD OF 'zzlaws_root_b1.FnAppendProcessParsesBack'. -/
def fnAppendProcessParsesBackCard : Claim7 := { stood := { row := fnAppendProcessParsesBackRow, standIns := [], harness := (true, "76d38461e6c7affb6238c0b313f6a7886353a69b32bd99bba0b689ea4bb62f40"), looks := false }, kinds := [], alts := [], laidByText := true, laidKinds := [.data, .data, .data], laidTests := true, laidLooks := .later }
def FnAppendProcessParsesBackCardSaid : Prop := Claim7.holds Tryd.pinned (.plain (OpenSpec.ofChange fnAppendProcessParsesBackSpec)) fnAppendProcessParsesBackCard

/-- THE TIED CARD OF 'zzlaws_root_b1.FnAppendProcessInjective'. -/
def fnAppendProcessInjectiveCard : Claim7 := { stood := { row := fnAppendProcessInjectiveRow, standIns := [], harness := (true, "76d38461e6c7affb6238c0b313f6a7886353a69b32bd99bba0b689ea4bb62f40"), looks := false }, kinds := [], alts := [], laidByText := true, laidKinds := [.data, .data, .data], laidTests := true, laidLooks := .later }
def FnAppendProcessInjectiveCardSaid : Prop := Claim7.holds Tryd.pinned (.plain (OpenSpec.ofChange fnAppendProcessInjectiveSpec)) fnAppendProcessInjectiveCard
end Rows
end Go.Proofs.Qxb6605804aDoor
