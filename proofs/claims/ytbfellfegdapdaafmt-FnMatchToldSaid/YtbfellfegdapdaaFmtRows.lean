/-
  No cell of these rows narrows 'for every input' (looked for: loops, veiled, ifaces, maps, wideKeys, modest, calm, conditions, laid).
  DERIVED. THE GIVEN ROWS OF THIS SEAT. 4 by the template 'for every input the law returns true; each argument reads behind the call as it read before'; 0 by the template 'total and deterministic' (their statements: YtbfellfegdapdaaFmtTotals.lean).
  GIVEN WITH THE SEED: the statements are not yours to turn. If you find one false, say at which input.
  Laid BY PROGRAM, IN A SANDBOX (cutbox-rows.mjs): the forced cells as the released guide's own fill.sh prints them over the translation 85e3fda0c7804c86… (all of the seat's roots in one cut). By AI agents, Wed Nov 11 2026. No macro, syntax, notation, axiom, sorry.
-/
import Derived.Test.YtbfellfegdapdaaFmtChecked
import GoSem.Claim
import GoSem.ClaimJoined
import GoSem.ClaimMapViews
import Derived.JoinedTies
import Derived.KernelRfl
namespace Go.Proofs.YtbfellfegdapdaaFmt
/- THE CELL 'sum', in the pinned program and in every row, IS THE sha256 OF THE DUMP (.gsa) THAT YtbfellfegdapdaaFmtProg.lean LOADS. Nothing in Lean hashes anything: it is a label: what it is worth is what the hold of that sum in a sandbox is worth. -/
noncomputable def Tryf.pinned : Pinned := { name := "ytbfellfegdapdaafmt", sum := "85e3fda0c7804c865e35e08c8a2055d5065b564bbaabbefb18e1ab64fa3f810c", checked := Tryf.checked }
namespace Rows
def none {H : Type} : Left H := { results := [], args := [] }

/-- 'laws.FnMatch': WHATEVER THE INPUT: true; the input reads as it did. -/
def fnMatchSpec : ChangeSpec := { name := "fnMatch", fn := fun _ => fun
  | [d1, d2] => { results := [.lit (.bool true)], args := [d1, d2] }
  | _ => none }
def fnMatchRow : OpenClaim := { program := "ytbfellfegdapdaafmt", sum := "85e3fda0c7804c865e35e08c8a2055d5065b564bbaabbefb18e1ab64fa3f810c", func := "scalesill/laws.FnMatch", spec := "fnMatch", stops := ["fmt.Sprintf, its operands' methods called"], inPlace := ["fmt.Sprintf"], unfollowed := true, recurses := true, apart := false }
/-- NO THEOREM (fmt's text is open here; it may be false): for the released tool's asking of the row's closed facts alone. THE STATEMENT IS 'FnMatchToldSaid' (YtbfellfegdapdaaFmtCards.lean). -/
def FnMatchFormAsk : Prop := fnMatchRow.holds Tryf.pinned (OpenSpec.ofChange fnMatchSpec)

/-- ITS FALSE NEIGHBOUR: 'it returns false'. Refute it at one input. -/
def fnMatchWrong : ChangeSpec := { name := "fnMatch", fn := fun _ => fun
  | [d1, d2] => { results := [.lit (.bool false)], args := [d1, d2] }
  | _ => none }
def FnMatchWrongFormAsk : Prop := fnMatchRow.holds Tryf.pinned (OpenSpec.ofChange fnMatchWrong)

/-- 'laws.FnMatchAround': WHATEVER THE INPUT: true; the input reads as it did. -/
def fnMatchAroundSpec : ChangeSpec := { name := "fnMatchAround", fn := fun _ => fun
  | [d1, d2, d3] => { results := [.lit (.bool true)], args := [d1, d2, d3] }
  | _ => none }
def fnMatchAroundRow : OpenClaim := { program := "ytbfellfegdapdaafmt", sum := "85e3fda0c7804c865e35e08c8a2055d5065b564bbaabbefb18e1ab64fa3f810c", func := "scalesill/laws.FnMatchAround", spec := "fnMatchAround", stops := ["fmt.Sprintf, its operands' methods called"], inPlace := ["fmt.Sprintf"], unfollowed := true, recurses := true, apart := false }
/-- NO THEOREM (fmt's text is open here; it may be false): for the released tool's asking of the row's closed facts alone. THE STATEMENT IS 'FnMatchAroundToldSaid' (YtbfellfegdapdaaFmtCards.lean). -/
def FnMatchAroundFormAsk : Prop := fnMatchAroundRow.holds Tryf.pinned (OpenSpec.ofChange fnMatchAroundSpec)

/-- ITS FALSE NEIGHBOUR: 'it returns false'. Refute it at one input. -/
def fnMatchAroundWrong : ChangeSpec := { name := "fnMatchAround", fn := fun _ => fun
  | [d1, d2, d3] => { results := [.lit (.bool false)], args := [d1, d2, d3] }
  | _ => none }
def FnMatchAroundWrongFormAsk : Prop := fnMatchAroundRow.holds Tryf.pinned (OpenSpec.ofChange fnMatchAroundWrong)

/-- 'laws.FnMatchFilled': WHATEVER THE INPUT: true; the input reads as it did. -/
def fnMatchFilledSpec : ChangeSpec := { name := "fnMatchFilled", fn := fun _ => fun
  | [d1, d2] => { results := [.lit (.bool true)], args := [d1, d2] }
  | _ => none }
def fnMatchFilledRow : OpenClaim := { program := "ytbfellfegdapdaafmt", sum := "85e3fda0c7804c865e35e08c8a2055d5065b564bbaabbefb18e1ab64fa3f810c", func := "scalesill/laws.FnMatchFilled", spec := "fnMatchFilled", stops := ["fmt.Sprintf, its operands' methods called"], inPlace := ["fmt.Sprintf"], unfollowed := true, recurses := true, apart := false }
/-- NO THEOREM (fmt's text is open here; it may be false): for the released tool's asking of the row's closed facts alone. THE STATEMENT IS 'FnMatchFilledToldSaid' (YtbfellfegdapdaaFmtCards.lean). -/
def FnMatchFilledFormAsk : Prop := fnMatchFilledRow.holds Tryf.pinned (OpenSpec.ofChange fnMatchFilledSpec)

/-- ITS FALSE NEIGHBOUR: 'it returns false'. Refute it at one input. -/
def fnMatchFilledWrong : ChangeSpec := { name := "fnMatchFilled", fn := fun _ => fun
  | [d1, d2] => { results := [.lit (.bool false)], args := [d1, d2] }
  | _ => none }
def FnMatchFilledWrongFormAsk : Prop := fnMatchFilledRow.holds Tryf.pinned (OpenSpec.ofChange fnMatchFilledWrong)

/-- 'laws.FnMatchText': WHATEVER THE INPUT: true; the input reads as it did. -/
def fnMatchTextSpec : ChangeSpec := { name := "fnMatchText", fn := fun _ => fun
  | [d1, d2, d3] => { results := [.lit (.bool true)], args := [d1, d2, d3] }
  | _ => none }
def fnMatchTextRow : OpenClaim := { program := "ytbfellfegdapdaafmt", sum := "85e3fda0c7804c865e35e08c8a2055d5065b564bbaabbefb18e1ab64fa3f810c", func := "scalesill/laws.FnMatchText", spec := "fnMatchText", stops := ["fmt.Sprintf, its operands' methods called"], inPlace := ["fmt.Sprintf"], unfollowed := true, recurses := true, apart := false }
/-- NO THEOREM (fmt's text is open here; it may be false): for the released tool's asking of the row's closed facts alone. THE STATEMENT IS 'FnMatchTextToldSaid' (YtbfellfegdapdaaFmtCards.lean). -/
def FnMatchTextFormAsk : Prop := fnMatchTextRow.holds Tryf.pinned (OpenSpec.ofChange fnMatchTextSpec)

/-- ITS FALSE NEIGHBOUR: 'it returns false'. Refute it at one input. -/
def fnMatchTextWrong : ChangeSpec := { name := "fnMatchText", fn := fun _ => fun
  | [d1, d2, d3] => { results := [.lit (.bool false)], args := [d1, d2, d3] }
  | _ => none }
def FnMatchTextWrongFormAsk : Prop := fnMatchTextRow.holds Tryf.pinned (OpenSpec.ofChange fnMatchTextWrong)

end Rows
end Go.Proofs.YtbfellfegdapdaaFmt
