/-
  DERIVED. GIVEN WITH THE SEED: THE CARDS: each row of Qxb6612819aDoorRows.lean that lists a variable, with what it lists TIED to the program's text (the seventh form; the later family's looks); each row that meets fmt, with fmt's text TOLD by the authors' own Lean function (tested against real Go, not proved from fmt's source: count such statements apart). THE CARD IS WHAT COUNTS. Prove the row's statement (the work); the ties are given (Qxb6612819aDoorTie.lean); close each card by the builder's one call (the guide's Derived/Test/ToyasCard.lean, 'card_holds'). Laid BY PROGRAM, IN A SANDBOX (cutbox-door.mjs). By AI agents, Wed Nov 11 2026. No macro, syntax, notation, axiom, sorry.
-/
import Derived.Test.Qxb6612819aDoorRows
import GoSem.ClaimSeven
namespace Go.Proofs.Qxb6612819aDoor
namespace Rows

/-- THE TIED CARD OF 'zzlaws_internal_profile_esfixed_b1.FnReadLineMatchesLineModel'. -/
def fnReadLineMatchesLineModelCard : Claim7 := { stood := { row := fnReadLineMatchesLineModelRow, standIns := [], harness := (true, "2e919e3506656ba0c88c33de40018c3445c3f02401b8a37479595b776981a6da"), looks := true }, kinds := [], alts := [], laidByText := true, laidKinds := [.sentinel, .sentinel, .sentinel, .sentinel], laidTests := true, laidLooks := .later }
def FnReadLineMatchesLineModelCardSaid : Prop := Claim7.holds Tryd.pinned (.plain (OpenSpec.ofChange fnReadLineMatchesLineModelSpec)) fnReadLineMatchesLineModelCard

/-- THE TIED CARD OF 'zzlaws_internal_profile_esfixed_b1.FnReadLineCutAtLineEnd'. -/
def fnReadLineCutAtLineEndCard : Claim7 := { stood := { row := fnReadLineCutAtLineEndRow, standIns := [], harness := (true, "2e919e3506656ba0c88c33de40018c3445c3f02401b8a37479595b776981a6da"), looks := true }, kinds := [], alts := [], laidByText := true, laidKinds := [.sentinel, .sentinel, .sentinel, .sentinel], laidTests := true, laidLooks := .later }
def FnReadLineCutAtLineEndCardSaid : Prop := Claim7.holds Tryd.pinned (.plain (OpenSpec.ofChange fnReadLineCutAtLineEndSpec)) fnReadLineCutAtLineEndCard

/-- THE TIED CARD OF 'zzlaws_internal_profile_esfixed_b1.FnReadLineOfBlankRecord'. -/
def fnReadLineOfBlankRecordCard : Claim7 := { stood := { row := fnReadLineOfBlankRecordRow, standIns := [], harness := (true, "2e919e3506656ba0c88c33de40018c3445c3f02401b8a37479595b776981a6da"), looks := true }, kinds := [], alts := [], laidByText := true, laidKinds := [.sentinel, .sentinel, .sentinel, .sentinel], laidTests := true, laidLooks := .later }
def FnReadLineOfBlankRecordCardSaid : Prop := Claim7.holds Tryd.pinned (.plain (OpenSpec.ofChange fnReadLineOfBlankRecordSpec)) fnReadLineOfBlankRecordCard
end Rows
end Go.Proofs.Qxb6612819aDoor
