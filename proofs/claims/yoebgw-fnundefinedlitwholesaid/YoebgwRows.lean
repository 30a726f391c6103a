/-
  No cell of these rows narrows 'for every input' (looked for: loops, veiled, ifaces, maps, wideKeys, modest, calm, conditions, laid).
  DERIVED. THE GIVEN ROWS OF THIS SEAT. 2 by the template 'for every input the law returns true; each argument reads behind the call as it read before'; 0 by the template 'total and deterministic' (their statements: YoebgwTotals.lean).
  GIVEN WITH THE SEED: the statements are not yours to turn. If you find one false, say at which input.
  Laid BY PROGRAM, IN A SANDBOX (cutbox-rows.mjs): the forced cells as the released guide's own fill.sh prints them over the translation ee8abf5be409b763… (all of the seat's roots in one cut). By AI agents, Wed Nov 11 2026. No macro, syntax, notation, axiom, sorry.
-/
import Derived.Test.YoebgwChecked
import GoSem.Claim
import GoSem.ClaimJoined
import GoSem.ClaimMapViews
import Derived.JoinedTies
import Derived.KernelRfl
namespace Go.Proofs.Yoebgw
/- THE CELL 'sum', in the pinned program and in every row, IS THE sha256 OF THE DUMP (.gsa) THAT YoebgwProg.lean LOADS. Nothing in Lean hashes anything: it is a label: what it is worth is what the hold of that sum in a sandbox is worth. -/
noncomputable def Ebgg.pinned : Pinned := { name := "yoebgw", sum := "ee8abf5be409b763f8bd6e4f9cd1f9bd02cbcafc5615ed8093d6f51ecfc4c08d", checked := Ebgg.checked }
namespace Rows
def none {H : Type} : Left H := { results := [], args := [] }

/-- 'zzlaws_parser_b25.FnUndefinedLitWhole': WHATEVER THE INPUT: true; the input reads as it did. -/
def fnUndefinedLitWholeSpec : ChangeSpec := { name := "fnUndefinedLitWhole", fn := fun _ => fun
  | [d] => { results := [.lit (.bool true)], args := [d] }
  | _ => none }
def fnUndefinedLitWholeRow : OpenClaim := { program := "yoebgw", sum := "ee8abf5be409b763f8bd6e4f9cd1f9bd02cbcafc5615ed8093d6f51ecfc4c08d", func := "github.com/d5/tengo/v2/zzlaws_parser_b25.FnUndefinedLitWhole", spec := "fnUndefinedLitWhole", apart := false }
def FnUndefinedLitWholeSaid : Prop := fnUndefinedLitWholeRow.holds Ebgg.pinned (OpenSpec.ofChange fnUndefinedLitWholeSpec)

/-- ITS FALSE NEIGHBOUR: 'it returns false'. Refute it at one input. -/
def fnUndefinedLitWholeWrong : ChangeSpec := { name := "fnUndefinedLitWhole", fn := fun _ => fun
  | [d] => { results := [.lit (.bool false)], args := [d] }
  | _ => none }
def FnUndefinedLitWholeWrongFalsely : Prop := fnUndefinedLitWholeRow.holds Ebgg.pinned (OpenSpec.ofChange fnUndefinedLitWholeWrong)

/-- 'zzlaws_parser_b25.FnUndefinedLitEndIsPosShift': WHATEVER THE INPUT: true; the input reads as it did. -/
def fnUndefinedLitEndIsPosShiftSpec : ChangeSpec := { name := "fnUndefinedLitEndIsPosShift", fn := fun _ => fun
  | [d1, d2] => { results := [.lit (.bool true)], args := [d1, d2] }
  | _ => none }
def fnUndefinedLitEndIsPosShiftRow : OpenClaim := { program := "yoebgw", sum := "ee8abf5be409b763f8bd6e4f9cd1f9bd02cbcafc5615ed8093d6f51ecfc4c08d", func := "github.com/d5/tengo/v2/zzlaws_parser_b25.FnUndefinedLitEndIsPosShift", spec := "fnUndefinedLitEndIsPosShift", apart := false }
def FnUndefinedLitEndIsPosShiftSaid : Prop := fnUndefinedLitEndIsPosShiftRow.holds Ebgg.pinned (OpenSpec.ofChange fnUndefinedLitEndIsPosShiftSpec)

/-- ITS FALSE NEIGHBOUR: 'it returns false'. Refute it at one input. -/
def fnUndefinedLitEndIsPosShiftWrong : ChangeSpec := { name := "fnUndefinedLitEndIsPosShift", fn := fun _ => fun
  | [d1, d2] => { results := [.lit (.bool false)], args := [d1, d2] }
  | _ => none }
def FnUndefinedLitEndIsPosShiftWrongFalsely : Prop := fnUndefinedLitEndIsPosShiftRow.holds Ebgg.pinned (OpenSpec.ofChange fnUndefinedLitEndIsPosShiftWrong)

end Rows
end Go.Proofs.Yoebgw
