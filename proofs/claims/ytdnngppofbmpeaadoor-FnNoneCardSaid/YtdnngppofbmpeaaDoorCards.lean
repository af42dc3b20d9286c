/-
  DERIVED. GIVEN WITH THE SEED: THE CARDS: each row of YtdnngppofbmpeaaDoorRows.lean that lists a variable, with what it lists TIED to the program's text (the seventh form; the later family's looks); each row that meets fmt, with fmt's text TOLD by the authors' own Lean function (tested against real Go, not proved from fmt's source: count such statements apart). THE CARD IS WHAT COUNTS. Prove the row's statement (the work); the ties are given (YtdnngppofbmpeaaDoorTie.lean); close each card by the builder's one call (the guide's Derived/Test/ToyasCard.lean, 'card_holds'). Laid BY PROGRAM, IN A SANDBOX (cutbox-door.mjs). By AI agents, Wed Nov 11 2026. No macro, syntax, notation, axiom, sorry.
-/
import Derived.Test.YtdnngppofbmpeaaDoorRows
import GoSem.ClaimSeven
namespace Go.Proofs.YtdnngppofbmpeaaDoor
namespace Rows

/-- THE TIED CARD OF 'laws.FnNone'. -/
def fnNoneCard : Claim7 := { stood := { row := fnNoneRow, standIns := [], harness := (true, "f74a9a2e3e9a7b1978ce6f4c9b6dd75467a34e916577e3f6a22c83da7b7533ba"), looks := false }, kinds := [], alts := [], laidByText := true, laidKinds := [.data, .data], laidTests := true, laidLooks := .later }
def FnNoneCardSaid : Prop := Claim7.holds Tryd.pinned (.plain (OpenSpec.ofChange fnNoneSpec)) fnNoneCard

/-- THE SECOND FORM's CARD OF 'laws.FnNone'. -/
def fnNoneUptoCard : Claim7 := { stood := { row := fnNoneUptoRow, standIns := [], harness := (true, "f74a9a2e3e9a7b1978ce6f4c9b6dd75467a34e916577e3f6a22c83da7b7533ba"), looks := false }, kinds := [], alts := [], laidByText := true, laidKinds := [.data, .data], laidTests := true, laidLooks := .later }
def FnNoneUptoCardSaid : Prop := Claim7.holds Tryd.pinned (.plain (OpenSpec.upto fnNoneSpec)) fnNoneUptoCard
end Rows
end Go.Proofs.YtdnngppofbmpeaaDoor
