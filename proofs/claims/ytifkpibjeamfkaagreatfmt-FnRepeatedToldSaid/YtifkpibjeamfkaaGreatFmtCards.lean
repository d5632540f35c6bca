/-
  DERIVED. GIVEN WITH THE SEED: THE CARDS: each row of YtifkpibjeamfkaaGreatFmtRows.lean that lists a variable, with what it lists TIED to the program's text (the seventh form; the later family's looks); each row that meets fmt, with fmt's text TOLD by the authors' own Lean function (tested against real Go, not proved from fmt's source: count such statements apart). THE CARD IS WHAT COUNTS. Prove the row's statement (the work); the ties are given (YtifkpibjeamfkaaGreatFmtTie.lean); close each card by the builder's one call (the guide's Derived/Test/ToyasCard.lean, 'card_holds'). Laid BY PROGRAM, IN A SANDBOX (cutbox-door.mjs). By AI agents, Wed Nov 11 2026. No macro, syntax, notation, axiom, sorry.
-/
import Derived.Test.YtifkpibjeamfkaaGreatFmtRows
import GoSem.ClaimSeven
namespace Go.Proofs.YtifkpibjeamfkaaGreatFmt
namespace Rows

/-- THE TOLD AND TIED CARD OF 'laws.FnRepeated'. -/
def fnRepeatedCard : Claim7 := { stood := { row := fnRepeatedRow, standIns := [], harness := (true, "5e20549a8d004d912f3f264aaf7d056836a9d819e0a000c2d678e7888a9c02d1"), looks := true }, told := true, laidByText := true, laidKinds := [.data], laidTests := true, laidLooks := .later, goes := false }
def FnRepeatedToldSaid : Prop := Claim7.holds Tryz.pinned (.plain (OpenSpec.ofChange fnRepeatedSpec)) fnRepeatedCard
/-- ITS FALSE NEIGHBOUR. Refute it at one input. -/
def FnRepeatedToldWrongFalsely : Prop := Claim7.holds Tryz.pinned (.plain (OpenSpec.ofChange fnRepeatedWrong)) fnRepeatedCard

/-- THE TOLD AND TIED CARD OF 'laws.FnVersionBad'. -/
def fnVersionBadCard : Claim7 := { stood := { row := fnVersionBadRow, standIns := [], harness := (true, "5e20549a8d004d912f3f264aaf7d056836a9d819e0a000c2d678e7888a9c02d1"), looks := true }, told := true, laidByText := true, laidKinds := [.data], laidTests := true, laidLooks := .later, goes := false }
def FnVersionBadToldSaid : Prop := Claim7.holds Tryz.pinned (.plain (OpenSpec.ofChange fnVersionBadSpec)) fnVersionBadCard
/-- ITS FALSE NEIGHBOUR. Refute it at one input. -/
def FnVersionBadToldWrongFalsely : Prop := Claim7.holds Tryz.pinned (.plain (OpenSpec.ofChange fnVersionBadWrong)) fnVersionBadCard

/-- THE TOLD AND TIED CARD OF 'laws.FnVersionMajor'. -/
def fnVersionMajorCard : Claim7 := { stood := { row := fnVersionMajorRow, standIns := [], harness := (true, "5e20549a8d004d912f3f264aaf7d056836a9d819e0a000c2d678e7888a9c02d1"), looks := true }, told := true, laidByText := true, laidKinds := [.data], laidTests := true, laidLooks := .later, goes := false }
def FnVersionMajorToldSaid : Prop := Claim7.holds Tryz.pinned (.plain (OpenSpec.ofChange fnVersionMajorSpec)) fnVersionMajorCard
/-- ITS FALSE NEIGHBOUR. Refute it at one input. -/
def FnVersionMajorToldWrongFalsely : Prop := Claim7.holds Tryz.pinned (.plain (OpenSpec.ofChange fnVersionMajorWrong)) fnVersionMajorCard

/-- THE TOLD AND TIED CARD OF 'laws.FnQuoteParse'. -/
def fnQuoteParseCard : Claim7 := { stood := { row := fnQuoteParseRow, standIns := [], harness := (true, "5e20549a8d004d912f3f264aaf7d056836a9d819e0a000c2d678e7888a9c02d1"), looks := true }, told := true, laidByText := true, laidKinds := [.data], laidTests := true, laidLooks := .later, goes := false }
def FnQuoteParseToldSaid : Prop := Claim7.holds Tryz.pinned (.plain (OpenSpec.ofChange fnQuoteParseSpec)) fnQuoteParseCard
/-- ITS FALSE NEIGHBOUR. Refute it at one input. -/
def FnQuoteParseToldWrongFalsely : Prop := Claim7.holds Tryz.pinned (.plain (OpenSpec.ofChange fnQuoteParseWrong)) fnQuoteParseCard
end Rows
end Go.Proofs.YtifkpibjeamfkaaGreatFmt
