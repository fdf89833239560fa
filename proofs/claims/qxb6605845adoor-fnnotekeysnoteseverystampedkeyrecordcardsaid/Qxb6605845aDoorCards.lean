/-
  DERIVED. GIVEN WITH THE SEED: THE CARDS: each row of Qxb6605845aDoorRows.lean that lists a variable, with what it lists TIED to the program's text (the seventh form; the later family's looks); each row that meets fmt, with fmt's text TOLD by the authors' own Lean function (tested against real Go, not proved from fmt's source: count such statements apart). THE CARD IS WHAT COUNTS. Prove the row's statement (the work); the ties are given (Qxb6605845aDoorTie.lean); close each card by the builder's one call (the guide's Derived/Test/ToyasCard.lean, 'card_holds'). Laid BY PROGRAM, IN A SANDBOX (cutbox-door.mjs). By AI agents, Wed Nov 11 2026. No macro, syntax, notation, axiom, sorry.
-/
import Derived.Test.Qxb6605845aDoorRows
import GoSem.ClaimSeven
namespace Go.Proofs.Qxb6605845aDoor
namespace Rows

/-- THE TIED CARD OF 'zzlaws_internal_txn_b1.FnNoteKeysNotesEveryStampedKeyRecord'. -/
def fnNoteKeysNotesEveryStampedKeyRecordCard : Claim7 := { stood := { row := fnNoteKeysNotesEveryStampedKeyRecordRow, standIns := [], harness := (true, "b6ea1cf3117832260977c393c7169684bfd34bceb7dea6f674303e7c3a776e7c"), looks := true }, kinds := [], alts := [], laidByText := true, laidKinds := [.data, .data, .data, .sentinel, .sentinel], laidTests := true, laidLooks := .later }
def FnNoteKeysNotesEveryStampedKeyRecordCardSaid : Prop := Claim7.holds Tryd.pinned (.plain (OpenSpec.ofChange fnNoteKeysNotesEveryStampedKeyRecordSpec)) fnNoteKeysNotesEveryStampedKeyRecordCard

/-- THE TIED CARD OF 'zzlaws_internal_txn_b1.FnNoteKeysEarliestStampOnTop'. -/
def fnNoteKeysEarliestStampOnTopCard : Claim7 := { stood := { row := fnNoteKeysEarliestStampOnTopRow, standIns := [], harness := (true, "b6ea1cf3117832260977c393c7169684bfd34bceb7dea6f674303e7c3a776e7c"), looks := true }, kinds := [], alts := [], laidByText := true, laidKinds := [.data, .data, .data, .sentinel, .sentinel], laidTests := true, laidLooks := .later }
def FnNoteKeysEarliestStampOnTopCardSaid : Prop := Claim7.holds Tryd.pinned (.plain (OpenSpec.ofChange fnNoteKeysEarliestStampOnTopSpec)) fnNoteKeysEarliestStampOnTopCard
end Rows
end Go.Proofs.Qxb6605845aDoor
