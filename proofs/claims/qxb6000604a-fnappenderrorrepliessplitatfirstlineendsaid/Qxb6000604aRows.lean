/-
  No cell of these rows narrows 'for every input' (looked for: loops, veiled, ifaces, maps, wideKeys, modest, calm, conditions, laid).
  DERIVED. THE GIVEN ROWS OF THIS SEAT. 3 by the template 'for every input the law returns true; each argument reads behind the call as it read before'; 0 by the template 'total and deterministic' (their statements: Qxb6000604aTotals.lean).
  GIVEN WITH THE SEED: the statements are not yours to turn. If you find one false, say at which input.
  Laid BY PROGRAM, IN A SANDBOX (cutbox-rows.mjs): the forced cells as the released guide's own fill.sh prints them over the translation 03bc3bac0c7ec926… (all of the seat's roots in one cut). By AI agents, Wed Nov 11 2026. No macro, syntax, notation, axiom, sorry.
-/
import Derived.Test.Qxb6000604aChecked
import GoSem.Claim
import GoSem.ClaimJoined
import GoSem.ClaimMapViews
import Derived.JoinedTies
import Derived.KernelRfl
namespace Go.Proofs.Qxb6000604a
/- THE CELL 'sum', in the pinned program and in every row, IS THE sha256 OF THE DUMP (.gsa) THAT Qxb6000604aProg.lean LOADS. Nothing in Lean hashes anything: it is a label: what it is worth is what the hold of that sum in a sandbox is worth. -/
noncomputable def Try.pinned : Pinned := { name := "qxb6000604a", sum := "03bc3bac0c7ec926d00169cde749ba494cd4d0cb9ef62c4320b70b1885fff6a6", checked := Try.checked }
namespace Rows
def none {H : Type} : Left H := { results := [], args := [] }

/-- 'zzlaws_internal_resp_b1.FnAppendErrorFramesOneLine': WHATEVER THE INPUT: true; the input reads as it did. -/
def fnAppendErrorFramesOneLineSpec : ChangeSpec := { name := "fnAppendErrorFramesOneLine", fn := fun _ => fun
  | [d1, d2] => { results := [.lit (.bool true)], args := [d1, d2] }
  | _ => none }
def fnAppendErrorFramesOneLineRow : OpenClaim := { program := "qxb6000604a", sum := "03bc3bac0c7ec926d00169cde749ba494cd4d0cb9ef62c4320b70b1885fff6a6", func := "example.com/graticule/graticule/zzlaws_internal_resp_b1.FnAppendErrorFramesOneLine", spec := "fnAppendErrorFramesOneLine", apart := false }
def FnAppendErrorFramesOneLineSaid : Prop := fnAppendErrorFramesOneLineRow.holds Try.pinned (OpenSpec.ofChange fnAppendErrorFramesOneLineSpec)

/-- ITS FALSE NEIGHBOUR: 'it returns false'. Refute it at one input. -/
def fnAppendErrorFramesOneLineWrong : ChangeSpec := { name := "fnAppendErrorFramesOneLine", fn := fun _ => fun
  | [d1, d2] => { results := [.lit (.bool false)], args := [d1, d2] }
  | _ => none }
def FnAppendErrorFramesOneLineWrongFalsely : Prop := fnAppendErrorFramesOneLineRow.holds Try.pinned (OpenSpec.ofChange fnAppendErrorFramesOneLineWrong)

/-- 'zzlaws_internal_resp_b1.FnAppendErrorSanitiseIdempotent': WHATEVER THE INPUT: true; the input reads as it did. -/
def fnAppendErrorSanitiseIdempotentSpec : ChangeSpec := { name := "fnAppendErrorSanitiseIdempotent", fn := fun _ => fun
  | [d] => { results := [.lit (.bool true)], args := [d] }
  | _ => none }
def fnAppendErrorSanitiseIdempotentRow : OpenClaim := { program := "qxb6000604a", sum := "03bc3bac0c7ec926d00169cde749ba494cd4d0cb9ef62c4320b70b1885fff6a6", func := "example.com/graticule/graticule/zzlaws_internal_resp_b1.FnAppendErrorSanitiseIdempotent", spec := "fnAppendErrorSanitiseIdempotent", apart := false }
def FnAppendErrorSanitiseIdempotentSaid : Prop := fnAppendErrorSanitiseIdempotentRow.holds Try.pinned (OpenSpec.ofChange fnAppendErrorSanitiseIdempotentSpec)

/-- ITS FALSE NEIGHBOUR: 'it returns false'. Refute it at one input. -/
def fnAppendErrorSanitiseIdempotentWrong : ChangeSpec := { name := "fnAppendErrorSanitiseIdempotent", fn := fun _ => fun
  | [d] => { results := [.lit (.bool false)], args := [d] }
  | _ => none }
def FnAppendErrorSanitiseIdempotentWrongFalsely : Prop := fnAppendErrorSanitiseIdempotentRow.holds Try.pinned (OpenSpec.ofChange fnAppendErrorSanitiseIdempotentWrong)

/-- 'zzlaws_internal_resp_b1.FnAppendErrorRepliesSplitAtFirstLineEnd': WHATEVER THE INPUT: true; the input reads as it did. -/
def fnAppendErrorRepliesSplitAtFirstLineEndSpec : ChangeSpec := { name := "fnAppendErrorRepliesSplitAtFirstLineEnd", fn := fun _ => fun
  | [d1, d2] => { results := [.lit (.bool true)], args := [d1, d2] }
  | _ => none }
def fnAppendErrorRepliesSplitAtFirstLineEndRow : OpenClaim := { program := "qxb6000604a", sum := "03bc3bac0c7ec926d00169cde749ba494cd4d0cb9ef62c4320b70b1885fff6a6", func := "example.com/graticule/graticule/zzlaws_internal_resp_b1.FnAppendErrorRepliesSplitAtFirstLineEnd", spec := "fnAppendErrorRepliesSplitAtFirstLineEnd", apart := false }
def FnAppendErrorRepliesSplitAtFirstLineEndSaid : Prop := fnAppendErrorRepliesSplitAtFirstLineEndRow.holds Try.pinned (OpenSpec.ofChange fnAppendErrorRepliesSplitAtFirstLineEndSpec)

/-- ITS FALSE NEIGHBOUR: 'it returns false'. Refute it at one input. -/
def fnAppendErrorRepliesSplitAtFirstLineEndWrong : ChangeSpec := { name := "fnAppendErrorRepliesSplitAtFirstLineEnd", fn := fun _ => fun
  | [d1, d2] => { results := [.lit (.bool false)], args := [d1, d2] }
  | _ => none }
def FnAppendErrorRepliesSplitAtFirstLineEndWrongFalsely : Prop := fnAppendErrorRepliesSplitAtFirstLineEndRow.holds Try.pinned (OpenSpec.ofChange fnAppendErrorRepliesSplitAtFirstLineEndWrong)

end Rows
end Go.Proofs.Qxb6000604a
