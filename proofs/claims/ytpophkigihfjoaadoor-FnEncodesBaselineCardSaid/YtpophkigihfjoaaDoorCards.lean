/-
  DERIVED. GIVEN WITH THE SEED: THE CARDS: each row of YtpophkigihfjoaaDoorRows.lean that lists a variable, with what it lists TIED to the program's text (the seventh form; the later family's looks); each row that meets fmt, with fmt's text TOLD by the authors' own Lean function (tested against real Go, not proved from fmt's source: count such statements apart). THE CARD IS WHAT COUNTS. Prove the row's statement (the work); the ties are given (YtpophkigihfjoaaDoorTie.lean); close each card by the builder's one call (the guide's Derived/Test/ToyasCard.lean, 'card_holds'). Laid BY PROGRAM, IN A SANDBOX (cutbox-door.mjs). By AI agents, Wed Nov 11 2026. No macro, syntax, notation, axiom, sorry.
-/
import Derived.Test.YtpophkigihfjoaaDoorRows
import GoSem.ClaimSeven
namespace Go.Proofs.YtpophkigihfjoaaDoor
namespace Rows

/-- THE TIED CARD OF 'laws.FnDefaultQuality'. -/
def fnDefaultQualityCard : Claim7 := { stood := { row := fnDefaultQualityRow, standIns := [], harness := (true, "d88b9d58bbb3bdb0043bb186411395ba43b6aeb2a12ee603779a538f24325d86"), looks := true }, kinds := [], alts := [], laidByText := true, laidKinds := [.data, .data, .data], laidTests := true, laidLooks := .later }
def FnDefaultQualityCardSaid : Prop := Claim7.holds Tryd.pinned (.plain (OpenSpec.ofChange fnDefaultQualitySpec)) fnDefaultQualityCard

/-- THE TIED CARD OF 'laws.FnEncodesBaseline'. -/
def fnEncodesBaselineCard : Claim7 := { stood := { row := fnEncodesBaselineRow, standIns := [], harness := (true, "d88b9d58bbb3bdb0043bb186411395ba43b6aeb2a12ee603779a538f24325d86"), looks := true }, kinds := [], alts := [], laidByText := true, laidKinds := [.data, .data, .data], laidTests := true, laidLooks := .later }
def FnEncodesBaselineCardSaid : Prop := Claim7.holds Tryd.pinned (.plain (OpenSpec.ofChange fnEncodesBaselineSpec)) fnEncodesBaselineCard

/-- THE SECOND FORM's CARD OF 'laws.FnDefaultQuality'. -/
def fnDefaultQualityUptoCard : Claim7 := { stood := { row := fnDefaultQualityUptoRow, standIns := [], harness := (true, "d88b9d58bbb3bdb0043bb186411395ba43b6aeb2a12ee603779a538f24325d86"), looks := true }, kinds := [], alts := [], laidByText := true, laidKinds := [.data, .data, .data], laidTests := true, laidLooks := .later }
def FnDefaultQualityUptoCardSaid : Prop := Claim7.holds Tryd.pinned (.plain (OpenSpec.upto fnDefaultQualitySpec)) fnDefaultQualityUptoCard

/-- THE SECOND FORM's CARD OF 'laws.FnEncodesBaseline'. -/
def fnEncodesBaselineUptoCard : Claim7 := { stood := { row := fnEncodesBaselineUptoRow, standIns := [], harness := (true, "d88b9d58bbb3bdb0043bb186411395ba43b6aeb2a12ee603779a538f24325d86"), looks := true }, kinds := [], alts := [], laidByText := true, laidKinds := [.data, .data, .data], laidTests := true, laidLooks := .later }
def FnEncodesBaselineUptoCardSaid : Prop := Claim7.holds Tryd.pinned (.plain (OpenSpec.upto fnEncodesBaselineSpec)) fnEncodesBaselineUptoCard
end Rows
end Go.Proofs.YtpophkigihfjoaaDoor
