/-
  No cell of these rows narrows 'for every input' (looked for: loops, veiled, ifaces, maps, wideKeys, modest, calm, conditions, laid).
  DERIVED. THE GIVEN ROWS OF THIS SEAT. 3 by the template 'for every input the law returns true; each argument reads behind the call as it read before'; 0 by the template 'total and deterministic' (their statements: Qxb6609509aModsTotals.lean).
  GIVEN WITH THE SEED: the statements are not yours to turn. If you find one false, say at which input.
  Laid BY PROGRAM, IN A SANDBOX (cutbox-rows.mjs): the forced cells as the released guide's own fill.sh prints them over the translation aa6d0f805eb2049e… (all of the seat's roots in one cut). By AI agents, Wed Nov 11 2026. No macro, syntax, notation, axiom, sorry.
-/
import Derived.Test.Qxb6609509aModsChecked
import GoSem.Claim
import GoSem.ClaimJoined
import GoSem.ClaimMapViews
import Derived.JoinedTies
import Derived.KernelRfl
namespace Go.Proofs.Qxb6609509aMods
/- THE CELL 'sum', in the pinned program and in every row, IS THE sha256 OF THE DUMP (.gsa) THAT Qxb6609509aModsProg.lean LOADS. Nothing in Lean hashes anything: it is a label: what it is worth is what the hold of that sum in a sandbox is worth. -/
noncomputable def Trym.pinned : Pinned := { name := "qxb6609509amods", sum := "aa6d0f805eb2049e018ac115ec3b39d55f696e8f2abe9f1933bd1e4dc2ac3423", checked := Trym.checked }
namespace Rows
def none {H : Type} : Left H := { results := [], args := [] }

/-- 'zzlaws_root_b1.FnIsNameCharMatchesRanges': WHATEVER THE INPUT: true; the input reads as it did. -/
def fnIsNameCharMatchesRangesSpec : ChangeSpec := { name := "fnIsNameCharMatchesRanges", fn := fun _ => fun
  | [d] => { results := [.lit (.bool true)], args := [d] }
  | _ => none }
def fnIsNameCharMatchesRangesRow : OpenClaim := { program := "qxb6609509amods", sum := "aa6d0f805eb2049e018ac115ec3b39d55f696e8f2abe9f1933bd1e4dc2ac3423", func := "example.com/strict-access/strict-access/zzlaws_root_b1.FnIsNameCharMatchesRanges", spec := "fnIsNameCharMatchesRanges", plainKeys := false, make := .lifted ["publicsums"], apart := false }
def FnIsNameCharMatchesRangesSaid : Prop := fnIsNameCharMatchesRangesRow.holds Trym.pinned (OpenSpec.ofChange fnIsNameCharMatchesRangesSpec)

/-- ITS FALSE NEIGHBOUR: 'it returns false'. Refute it at one input. -/
def fnIsNameCharMatchesRangesWrong : ChangeSpec := { name := "fnIsNameCharMatchesRanges", fn := fun _ => fun
  | [d] => { results := [.lit (.bool false)], args := [d] }
  | _ => none }
def FnIsNameCharMatchesRangesWrongFalsely : Prop := fnIsNameCharMatchesRangesRow.holds Trym.pinned (OpenSpec.ofChange fnIsNameCharMatchesRangesWrong)

/-- 'zzlaws_root_b1.FnIsNameCharBeyondStart': WHATEVER THE INPUT: true; the input reads as it did. -/
def fnIsNameCharBeyondStartSpec : ChangeSpec := { name := "fnIsNameCharBeyondStart", fn := fun _ => fun
  | [d] => { results := [.lit (.bool true)], args := [d] }
  | _ => none }
def fnIsNameCharBeyondStartRow : OpenClaim := { program := "qxb6609509amods", sum := "aa6d0f805eb2049e018ac115ec3b39d55f696e8f2abe9f1933bd1e4dc2ac3423", func := "example.com/strict-access/strict-access/zzlaws_root_b1.FnIsNameCharBeyondStart", spec := "fnIsNameCharBeyondStart", plainKeys := false, make := .lifted ["publicsums"], apart := false }
def FnIsNameCharBeyondStartSaid : Prop := fnIsNameCharBeyondStartRow.holds Trym.pinned (OpenSpec.ofChange fnIsNameCharBeyondStartSpec)

/-- ITS FALSE NEIGHBOUR: 'it returns false'. Refute it at one input. -/
def fnIsNameCharBeyondStartWrong : ChangeSpec := { name := "fnIsNameCharBeyondStart", fn := fun _ => fun
  | [d] => { results := [.lit (.bool false)], args := [d] }
  | _ => none }
def FnIsNameCharBeyondStartWrongFalsely : Prop := fnIsNameCharBeyondStartRow.holds Trym.pinned (OpenSpec.ofChange fnIsNameCharBeyondStartWrong)

/-- 'zzlaws_root_b1.FnBeforeRulesLooksOnlyAtSteps': WHATEVER THE INPUT: true; the input reads as it did. -/
def fnBeforeRulesLooksOnlyAtStepsSpec : ChangeSpec := { name := "fnBeforeRulesLooksOnlyAtSteps", fn := fun _ => fun
  | [d1, d2, d3, d4, d5, d6, d7, d8, d9, d10, d11, d12] => { results := [.lit (.bool true)], args := [d1, d2, d3, d4, d5, d6, d7, d8, d9, d10, d11, d12] }
  | _ => none }
def fnBeforeRulesLooksOnlyAtStepsRow : OpenClaim := { program := "qxb6609509amods", sum := "aa6d0f805eb2049e018ac115ec3b39d55f696e8f2abe9f1933bd1e4dc2ac3423", func := "example.com/strict-access/strict-access/zzlaws_root_b1.FnBeforeRulesLooksOnlyAtSteps", spec := "fnBeforeRulesLooksOnlyAtSteps", plainKeys := false, make := .lifted ["publicsums"], apart := false }
def FnBeforeRulesLooksOnlyAtStepsSaid : Prop := fnBeforeRulesLooksOnlyAtStepsRow.holds Trym.pinned (OpenSpec.ofChange fnBeforeRulesLooksOnlyAtStepsSpec)

/-- ITS FALSE NEIGHBOUR: 'it returns false'. Refute it at one input. -/
def fnBeforeRulesLooksOnlyAtStepsWrong : ChangeSpec := { name := "fnBeforeRulesLooksOnlyAtSteps", fn := fun _ => fun
  | [d1, d2, d3, d4, d5, d6, d7, d8, d9, d10, d11, d12] => { results := [.lit (.bool false)], args := [d1, d2, d3, d4, d5, d6, d7, d8, d9, d10, d11, d12] }
  | _ => none }
def FnBeforeRulesLooksOnlyAtStepsWrongFalsely : Prop := fnBeforeRulesLooksOnlyAtStepsRow.holds Trym.pinned (OpenSpec.ofChange fnBeforeRulesLooksOnlyAtStepsWrong)

end Rows
end Go.Proofs.Qxb6609509aMods
