/-
  DERIVED. GIVEN WITH THE SEED: THE CARDS: each row of YtbfadghogjldcaaDoorRows.lean that lists a variable, with what it lists TIED to the program's text (the seventh form; the later family's looks); each row that meets fmt, with fmt's text TOLD by the authors' own Lean function (tested against real Go, not proved from fmt's source: count such statements apart). THE CARD IS WHAT COUNTS. Prove the row's statement (the work); the ties are given (YtbfadghogjldcaaDoorTie.lean); close each card by the builder's one call (the guide's Derived/Test/ToyasCard.lean, 'card_holds'). Laid BY PROGRAM, IN A SANDBOX (cutbox-door.mjs). By AI agents, Wed Nov 11 2026. No macro, syntax, notation, axiom, sorry.
-/
import Derived.Test.YtbfadghogjldcaaDoorRows
import GoSem.ClaimSeven
namespace Go.Proofs.YtbfadghogjldcaaDoor
namespace Rows

/-- THE TIED CARD OF 'laws.FnJNLikes'. -/
def fnJNLikesCard : Claim7 := { stood := { row := fnJNLikesRow, standIns := [], harness := (true, "aaa284831526d27c6eab92ecba55c5dc05cb292aeefe8975b8ce790b31e7d955"), looks := true }, kinds := [], alts := [], laidByText := true, laidKinds := [.data, .data, .data, .data, .pinned], laidTests := true, laidLooks := .later }
def FnJNLikesCardSaid : Prop := Claim7.holds Tryd.pinned (.plain (OpenSpec.ofChange fnJNLikesSpec)) fnJNLikesCard

/-- THE TIED CARD OF 'laws.FnJNWithin'. -/
def fnJNWithinCard : Claim7 := { stood := { row := fnJNWithinRow, standIns := [], harness := (true, "aaa284831526d27c6eab92ecba55c5dc05cb292aeefe8975b8ce790b31e7d955"), looks := true }, kinds := [], alts := [], laidByText := true, laidKinds := [.data, .data, .data, .data, .pinned], laidTests := true, laidLooks := .later }
def FnJNWithinCardSaid : Prop := Claim7.holds Tryd.pinned (.plain (OpenSpec.ofChange fnJNWithinSpec)) fnJNWithinCard

/-- THE TIED CARD OF 'laws.FnJNSearch'. -/
def fnJNSearchCard : Claim7 := { stood := { row := fnJNSearchRow, standIns := [], harness := (true, "aaa284831526d27c6eab92ecba55c5dc05cb292aeefe8975b8ce790b31e7d955"), looks := true }, kinds := [], alts := [], laidByText := true, laidKinds := [.data, .data, .data, .data, .pinned], laidTests := true, laidLooks := .later }
def FnJNSearchCardSaid : Prop := Claim7.holds Tryd.pinned (.plain (OpenSpec.ofChange fnJNSearchSpec)) fnJNSearchCard

/-- THE TIED CARD OF 'laws.FnJNOnce'. -/
def fnJNOnceCard : Claim7 := { stood := { row := fnJNOnceRow, standIns := [], harness := (true, "aaa284831526d27c6eab92ecba55c5dc05cb292aeefe8975b8ce790b31e7d955"), looks := true }, kinds := [], alts := [], laidByText := true, laidKinds := [.data, .data, .data, .data, .pinned], laidTests := true, laidLooks := .later }
def FnJNOnceCardSaid : Prop := Claim7.holds Tryd.pinned (.plain (OpenSpec.ofChange fnJNOnceSpec)) fnJNOnceCard

/-- THE SECOND FORM's CARD OF 'laws.FnJNLikes'. -/
def fnJNLikesUptoCard : Claim7 := { stood := { row := fnJNLikesUptoRow, standIns := [], harness := (true, "aaa284831526d27c6eab92ecba55c5dc05cb292aeefe8975b8ce790b31e7d955"), looks := true }, kinds := [], alts := [], laidByText := true, laidKinds := [.data, .data, .data, .data, .pinned], laidTests := true, laidLooks := .later }
def FnJNLikesUptoCardSaid : Prop := Claim7.holds Tryd.pinned (.plain (OpenSpec.upto fnJNLikesSpec)) fnJNLikesUptoCard

/-- THE SECOND FORM's CARD OF 'laws.FnJNWithin'. -/
def fnJNWithinUptoCard : Claim7 := { stood := { row := fnJNWithinUptoRow, standIns := [], harness := (true, "aaa284831526d27c6eab92ecba55c5dc05cb292aeefe8975b8ce790b31e7d955"), looks := true }, kinds := [], alts := [], laidByText := true, laidKinds := [.data, .data, .data, .data, .pinned], laidTests := true, laidLooks := .later }
def FnJNWithinUptoCardSaid : Prop := Claim7.holds Tryd.pinned (.plain (OpenSpec.upto fnJNWithinSpec)) fnJNWithinUptoCard

/-- THE SECOND FORM's CARD OF 'laws.FnJNSearch'. -/
def fnJNSearchUptoCard : Claim7 := { stood := { row := fnJNSearchUptoRow, standIns := [], harness := (true, "aaa284831526d27c6eab92ecba55c5dc05cb292aeefe8975b8ce790b31e7d955"), looks := true }, kinds := [], alts := [], laidByText := true, laidKinds := [.data, .data, .data, .data, .pinned], laidTests := true, laidLooks := .later }
def FnJNSearchUptoCardSaid : Prop := Claim7.holds Tryd.pinned (.plain (OpenSpec.upto fnJNSearchSpec)) fnJNSearchUptoCard

/-- THE SECOND FORM's CARD OF 'laws.FnJNOnce'. -/
def fnJNOnceUptoCard : Claim7 := { stood := { row := fnJNOnceUptoRow, standIns := [], harness := (true, "aaa284831526d27c6eab92ecba55c5dc05cb292aeefe8975b8ce790b31e7d955"), looks := true }, kinds := [], alts := [], laidByText := true, laidKinds := [.data, .data, .data, .data, .pinned], laidTests := true, laidLooks := .later }
def FnJNOnceUptoCardSaid : Prop := Claim7.holds Tryd.pinned (.plain (OpenSpec.upto fnJNOnceSpec)) fnJNOnceUptoCard
end Rows
end Go.Proofs.YtbfadghogjldcaaDoor
