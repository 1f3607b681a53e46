/-
  No cell of these rows narrows 'for every input' (looked for: loops, veiled, ifaces, maps, wideKeys, modest, calm, conditions, laid).
  DERIVED. THE GIVEN ROWS OF THIS SEAT. 2 by the template 'for every input the law returns true; each argument reads behind the call as it read before'; 0 by the template 'total and deterministic' (their statements: YoedewTotals.lean).
  GIVEN WITH THE SEED: the statements are not yours to turn. If you find one false, say at which input.
  Laid BY PROGRAM, IN A SANDBOX (cutbox-rows.mjs): the forced cells as the released guide's own fill.sh prints them over the translation 7284b2d04cdbe265… (all of the seat's roots in one cut). By AI agents, Wed Nov 11 2026. No macro, syntax, notation, axiom, sorry.
-/
import Derived.Test.YoedewChecked
import GoSem.Claim
import GoSem.ClaimJoined
import GoSem.ClaimMapViews
import Derived.JoinedTies
import Derived.KernelRfl
namespace Go.Proofs.Yoedew
/- THE CELL 'sum', in the pinned program and in every row, IS THE sha256 OF THE DUMP (.gsa) THAT YoedewProg.lean LOADS. Nothing in Lean hashes anything: it is a label: what it is worth is what the hold of that sum in a sandbox is worth. -/
noncomputable def Edeg.pinned : Pinned := { name := "yoedew", sum := "7284b2d04cdbe265c1b29b7e6c8946b70766193bc5d1d34032a431f0ce4cfde0", checked := Edeg.checked }
namespace Rows
def none {H : Type} : Left H := { results := [], args := [] }

/-- 'zzlaws_parser_b53.FnBadStmtStringTellsApart': WHATEVER THE INPUT: true; the input reads as it did. -/
def fnBadStmtStringTellsApartSpec : ChangeSpec := { name := "fnBadStmtStringTellsApart", fn := fun _ => fun
  | [d1, d2, d3, d4, d5, d6] => { results := [.lit (.bool true)], args := [d1, d2, d3, d4, d5, d6] }
  | _ => none }
def fnBadStmtStringTellsApartRow : OpenClaim := { program := "yoedew", sum := "7284b2d04cdbe265c1b29b7e6c8946b70766193bc5d1d34032a431f0ce4cfde0", func := "github.com/d5/tengo/v2/zzlaws_parser_b53.FnBadStmtStringTellsApart", spec := "fnBadStmtStringTellsApart", apart := false }
def FnBadStmtStringTellsApartSaid : Prop := fnBadStmtStringTellsApartRow.holds Edeg.pinned (OpenSpec.ofChange fnBadStmtStringTellsApartSpec)

/-- ITS FALSE NEIGHBOUR: 'it returns false'. Refute it at one input. -/
def fnBadStmtStringTellsApartWrong : ChangeSpec := { name := "fnBadStmtStringTellsApart", fn := fun _ => fun
  | [d1, d2, d3, d4, d5, d6] => { results := [.lit (.bool false)], args := [d1, d2, d3, d4, d5, d6] }
  | _ => none }
def FnBadStmtStringTellsApartWrongFalsely : Prop := fnBadStmtStringTellsApartRow.holds Edeg.pinned (OpenSpec.ofChange fnBadStmtStringTellsApartWrong)

/-- 'zzlaws_parser_b53.FnBlockStmtEndAgreesWithEnclosing': WHATEVER THE INPUT: true; the input reads as it did. -/
def fnBlockStmtEndAgreesWithEnclosingSpec : ChangeSpec := { name := "fnBlockStmtEndAgreesWithEnclosing", fn := fun _ => fun
  | [d1, d2, d3] => { results := [.lit (.bool true)], args := [d1, d2, d3] }
  | _ => none }
def fnBlockStmtEndAgreesWithEnclosingRow : OpenClaim := { program := "yoedew", sum := "7284b2d04cdbe265c1b29b7e6c8946b70766193bc5d1d34032a431f0ce4cfde0", func := "github.com/d5/tengo/v2/zzlaws_parser_b53.FnBlockStmtEndAgreesWithEnclosing", spec := "fnBlockStmtEndAgreesWithEnclosing", apart := false }
def FnBlockStmtEndAgreesWithEnclosingSaid : Prop := fnBlockStmtEndAgreesWithEnclosingRow.holds Edeg.pinned (OpenSpec.ofChange fnBlockStmtEndAgreesWithEnclosingSpec)

/-- ITS FALSE NEIGHBOUR: 'it returns false'. Refute it at one input. -/
def fnBlockStmtEndAgreesWithEnclosingWrong : ChangeSpec := { name := "fnBlockStmtEndAgreesWithEnclosing", fn := fun _ => fun
  | [d1, d2, d3] => { results := [.lit (.bool false)], args := [d1, d2, d3] }
  | _ => none }
def FnBlockStmtEndAgreesWithEnclosingWrongFalsely : Prop := fnBlockStmtEndAgreesWithEnclosingRow.holds Edeg.pinned (OpenSpec.ofChange fnBlockStmtEndAgreesWithEnclosingWrong)

end Rows
end Go.Proofs.Yoedew
