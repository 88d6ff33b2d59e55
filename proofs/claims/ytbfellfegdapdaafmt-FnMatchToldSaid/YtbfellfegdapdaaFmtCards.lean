/-
  DERIVED. GIVEN WITH THE SEED: THE CARDS: each row of YtbfellfegdapdaaFmtRows.lean that lists a variable, with what it lists TIED to the program's text (the seventh form; the later family's looks); each row that meets fmt, with fmt's text TOLD by the authors' own Lean function (tested against real Go, not proved from fmt's source: count such statements apart). THE CARD IS WHAT COUNTS. Prove the row's statement (the work); the ties are given (YtbfellfegdapdaaFmtTie.lean); close each card by the builder's one call (the guide's Derived/Test/ToyasCard.lean, 'card_holds'). Laid BY PROGRAM, IN A SANDBOX (cutbox-door.mjs). By AI agents, Wed Nov 11 2026. No macro, syntax, notation, axiom, sorry.
-/
import Derived.Test.YtbfellfegdapdaaFmtRows
import GoSem.ClaimSeven
namespace Go.Proofs.YtbfellfegdapdaaFmt
namespace Rows

/-- THE TOLD CARD OF 'laws.FnMatch'. -/
def fnMatchCard : Claim7 := { stood := { row := fnMatchRow, standIns := [], harness := (true, "00e26c97ce48cdfe8131a30b8dd53cc0d064d060cec7f0c8f8175083a218e593"), looks := true }, told := true, goes := false }
def FnMatchToldSaid : Prop := Claim7.holds Tryf.pinned (.plain (OpenSpec.ofChange fnMatchSpec)) fnMatchCard
/-- ITS FALSE NEIGHBOUR. Refute it at one input. -/
def FnMatchToldWrongFalsely : Prop := Claim7.holds Tryf.pinned (.plain (OpenSpec.ofChange fnMatchWrong)) fnMatchCard

/-- THE TOLD CARD OF 'laws.FnMatchAround'. -/
def fnMatchAroundCard : Claim7 := { stood := { row := fnMatchAroundRow, standIns := [], harness := (true, "00e26c97ce48cdfe8131a30b8dd53cc0d064d060cec7f0c8f8175083a218e593"), looks := true }, told := true, goes := false }
def FnMatchAroundToldSaid : Prop := Claim7.holds Tryf.pinned (.plain (OpenSpec.ofChange fnMatchAroundSpec)) fnMatchAroundCard
/-- ITS FALSE NEIGHBOUR. Refute it at one input. -/
def FnMatchAroundToldWrongFalsely : Prop := Claim7.holds Tryf.pinned (.plain (OpenSpec.ofChange fnMatchAroundWrong)) fnMatchAroundCard

/-- THE TOLD CARD OF 'laws.FnMatchFilled'. -/
def fnMatchFilledCard : Claim7 := { stood := { row := fnMatchFilledRow, standIns := [], harness := (true, "00e26c97ce48cdfe8131a30b8dd53cc0d064d060cec7f0c8f8175083a218e593"), looks := true }, told := true, goes := false }
def FnMatchFilledToldSaid : Prop := Claim7.holds Tryf.pinned (.plain (OpenSpec.ofChange fnMatchFilledSpec)) fnMatchFilledCard
/-- ITS FALSE NEIGHBOUR. Refute it at one input. -/
def FnMatchFilledToldWrongFalsely : Prop := Claim7.holds Tryf.pinned (.plain (OpenSpec.ofChange fnMatchFilledWrong)) fnMatchFilledCard

/-- THE TOLD CARD OF 'laws.FnMatchText'. -/
def fnMatchTextCard : Claim7 := { stood := { row := fnMatchTextRow, standIns := [], harness := (true, "00e26c97ce48cdfe8131a30b8dd53cc0d064d060cec7f0c8f8175083a218e593"), looks := true }, told := true, goes := false }
def FnMatchTextToldSaid : Prop := Claim7.holds Tryf.pinned (.plain (OpenSpec.ofChange fnMatchTextSpec)) fnMatchTextCard
/-- ITS FALSE NEIGHBOUR. Refute it at one input. -/
def FnMatchTextToldWrongFalsely : Prop := Claim7.holds Tryf.pinned (.plain (OpenSpec.ofChange fnMatchTextWrong)) fnMatchTextCard
end Rows
end Go.Proofs.YtbfellfegdapdaaFmt
