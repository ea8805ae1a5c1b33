/-
  No cell of these rows narrows 'for every input' (looked for: loops, veiled, ifaces, maps, wideKeys, modest, calm, conditions, laid).
  DERIVED. THE GIVEN ROWS OF THIS SEAT. 2 by the template 'for every input the law returns true; each argument reads behind the call as it read before'; 0 by the template 'total and deterministic' (their statements: Qxb6603790aTotals.lean).
  GIVEN WITH THE SEED: the statements are not yours to turn. If you find one false, say at which input.
  Laid BY PROGRAM, IN A SANDBOX (cutbox-rows.mjs): the forced cells as the released guide's own fill.sh prints them over the translation 7a69d595958ec771… (all of the seat's roots in one cut). By AI agents, Wed Nov 11 2026. No macro, syntax, notation, axiom, sorry.
-/
import Derived.Test.Qxb6603790aChecked
import GoSem.Claim
import GoSem.ClaimJoined
import GoSem.ClaimMapViews
import Derived.JoinedTies
import Derived.KernelRfl
namespace Go.Proofs.Qxb6603790a
/- THE CELL 'sum', in the pinned program and in every row, IS THE sha256 OF THE DUMP (.gsa) THAT Qxb6603790aProg.lean LOADS. Nothing in Lean hashes anything: it is a label: what it is worth is what the hold of that sum in a sandbox is worth. -/
noncomputable def Try.pinned : Pinned := { name := "qxb6603790a", sum := "7a69d595958ec7713b434a24bcf0638000f80c056220ce60729ee4b4009f9fdc", checked := Try.checked }
namespace Rows
def none {H : Type} : Left H := { results := [], args := [] }

/-- 'zzlaws_pkg_instant_b1.FnHasRFC3339ShapeMatchesModel': WHATEVER THE INPUT: true; the input reads as it did. -/
def fnHasRFC3339ShapeMatchesModelSpec : ChangeSpec := { name := "fnHasRFC3339ShapeMatchesModel", fn := fun _ => fun
  | [d] => { results := [.lit (.bool true)], args := [d] }
  | _ => none }
def fnHasRFC3339ShapeMatchesModelRow : OpenClaim := { program := "qxb6603790a", sum := "7a69d595958ec7713b434a24bcf0638000f80c056220ce60729ee4b4009f9fdc", func := "example.com/termbook/termbook/zzlaws_pkg_instant_b1.FnHasRFC3339ShapeMatchesModel", spec := "fnHasRFC3339ShapeMatchesModel", apart := false }
def FnHasRFC3339ShapeMatchesModelSaid : Prop := fnHasRFC3339ShapeMatchesModelRow.holds Try.pinned (OpenSpec.ofChange fnHasRFC3339ShapeMatchesModelSpec)

/-- ITS FALSE NEIGHBOUR: 'it returns false'. Refute it at one input. -/
def fnHasRFC3339ShapeMatchesModelWrong : ChangeSpec := { name := "fnHasRFC3339ShapeMatchesModel", fn := fun _ => fun
  | [d] => { results := [.lit (.bool false)], args := [d] }
  | _ => none }
def FnHasRFC3339ShapeMatchesModelWrongFalsely : Prop := fnHasRFC3339ShapeMatchesModelRow.holds Try.pinned (OpenSpec.ofChange fnHasRFC3339ShapeMatchesModelWrong)

/-- 'zzlaws_pkg_instant_b1.FnFractionOfIsMaximalDigitRunAfterDot': WHATEVER THE INPUT: true; the input reads as it did. -/
def fnFractionOfIsMaximalDigitRunAfterDotSpec : ChangeSpec := { name := "fnFractionOfIsMaximalDigitRunAfterDot", fn := fun _ => fun
  | [d] => { results := [.lit (.bool true)], args := [d] }
  | _ => none }
def fnFractionOfIsMaximalDigitRunAfterDotRow : OpenClaim := { program := "qxb6603790a", sum := "7a69d595958ec7713b434a24bcf0638000f80c056220ce60729ee4b4009f9fdc", func := "example.com/termbook/termbook/zzlaws_pkg_instant_b1.FnFractionOfIsMaximalDigitRunAfterDot", spec := "fnFractionOfIsMaximalDigitRunAfterDot", apart := false }
def FnFractionOfIsMaximalDigitRunAfterDotSaid : Prop := fnFractionOfIsMaximalDigitRunAfterDotRow.holds Try.pinned (OpenSpec.ofChange fnFractionOfIsMaximalDigitRunAfterDotSpec)

/-- ITS FALSE NEIGHBOUR: 'it returns false'. Refute it at one input. -/
def fnFractionOfIsMaximalDigitRunAfterDotWrong : ChangeSpec := { name := "fnFractionOfIsMaximalDigitRunAfterDot", fn := fun _ => fun
  | [d] => { results := [.lit (.bool false)], args := [d] }
  | _ => none }
def FnFractionOfIsMaximalDigitRunAfterDotWrongFalsely : Prop := fnFractionOfIsMaximalDigitRunAfterDotRow.holds Try.pinned (OpenSpec.ofChange fnFractionOfIsMaximalDigitRunAfterDotWrong)

end Rows
end Go.Proofs.Qxb6603790a
