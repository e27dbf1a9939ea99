/-
  No cell of these rows narrows 'for every input' (looked for: loops, veiled, ifaces, maps, wideKeys, modest, calm, conditions, laid).
  DERIVED. THE GIVEN ROWS OF THIS SEAT. 3 by the template 'for every input the law returns true; each argument reads behind the call as it read before'; 0 by the template 'total and deterministic' (their statements: Qxb6605559aModsTotals.lean).
  GIVEN WITH THE SEED: the statements are not yours to turn. If you find one false, say at which input.
  Laid BY PROGRAM, IN A SANDBOX (cutbox-rows.mjs): the forced cells as the released guide's own fill.sh prints them over the translation aeba49363202c078… (all of the seat's roots in one cut). By AI agents, Wed Nov 11 2026. No macro, syntax, notation, axiom, sorry.
-/
import Derived.Test.Qxb6605559aModsChecked
import GoSem.Claim
import GoSem.ClaimJoined
import GoSem.ClaimMapViews
import Derived.JoinedTies
import Derived.KernelRfl
namespace Go.Proofs.Qxb6605559aMods
/- THE CELL 'sum', in the pinned program and in every row, IS THE sha256 OF THE DUMP (.gsa) THAT Qxb6605559aModsProg.lean LOADS. Nothing in Lean hashes anything: it is a label: what it is worth is what the hold of that sum in a sandbox is worth. -/
noncomputable def Trym.pinned : Pinned := { name := "qxb6605559amods", sum := "aeba49363202c0785c90ce681c55f181382d7c9942f40cd19526284f577582a4", checked := Trym.checked }
namespace Rows
def none {H : Type} : Left H := { results := [], args := [] }

/-- 'zzlaws_internal_decode_b1.FnCounterSequenceStep': WHATEVER THE INPUT: true; the input reads as it did. -/
def fnCounterSequenceStepSpec : ChangeSpec := { name := "fnCounterSequenceStep", fn := fun _ => fun
  | [d1, d2] => { results := [.lit (.bool true)], args := [d1, d2] }
  | _ => none }
def fnCounterSequenceStepRow : OpenClaim := { program := "qxb6605559amods", sum := "aeba49363202c0785c90ce681c55f181382d7c9942f40cd19526284f577582a4", func := "example.com/hopwire/hopwire/zzlaws_internal_decode_b1.FnCounterSequenceStep", spec := "fnCounterSequenceStep", plainKeys := false, make := .lifted ["publicsums"], apart := false }
def FnCounterSequenceStepSaid : Prop := fnCounterSequenceStepRow.holds Trym.pinned (OpenSpec.ofChange fnCounterSequenceStepSpec)

/-- ITS FALSE NEIGHBOUR: 'it returns false'. Refute it at one input. -/
def fnCounterSequenceStepWrong : ChangeSpec := { name := "fnCounterSequenceStep", fn := fun _ => fun
  | [d1, d2] => { results := [.lit (.bool false)], args := [d1, d2] }
  | _ => none }
def FnCounterSequenceStepWrongFalsely : Prop := fnCounterSequenceStepRow.holds Trym.pinned (OpenSpec.ofChange fnCounterSequenceStepWrong)

/-- 'zzlaws_internal_decode_b1.FnCounterSequenceRun': WHATEVER THE INPUT: true; the input reads as it did. -/
def fnCounterSequenceRunSpec : ChangeSpec := { name := "fnCounterSequenceRun", fn := fun _ => fun
  | [d] => { results := [.lit (.bool true)], args := [d] }
  | _ => none }
def fnCounterSequenceRunRow : OpenClaim := { program := "qxb6605559amods", sum := "aeba49363202c0785c90ce681c55f181382d7c9942f40cd19526284f577582a4", func := "example.com/hopwire/hopwire/zzlaws_internal_decode_b1.FnCounterSequenceRun", spec := "fnCounterSequenceRun", plainKeys := false, make := .lifted ["publicsums"], apart := false }
def FnCounterSequenceRunSaid : Prop := fnCounterSequenceRunRow.holds Trym.pinned (OpenSpec.ofChange fnCounterSequenceRunSpec)

/-- ITS FALSE NEIGHBOUR: 'it returns false'. Refute it at one input. -/
def fnCounterSequenceRunWrong : ChangeSpec := { name := "fnCounterSequenceRun", fn := fun _ => fun
  | [d] => { results := [.lit (.bool false)], args := [d] }
  | _ => none }
def FnCounterSequenceRunWrongFalsely : Prop := fnCounterSequenceRunRow.holds Trym.pinned (OpenSpec.ofChange fnCounterSequenceRunWrong)

/-- 'zzlaws_internal_decode_b1.FnCounterRememberExact': WHATEVER THE INPUT: true; the input reads as it did. -/
def fnCounterRememberExactSpec : ChangeSpec := { name := "fnCounterRememberExact", fn := fun _ => fun
  | [d1, d2, d3, d4] => { results := [.lit (.bool true)], args := [d1, d2, d3, d4] }
  | _ => none }
def fnCounterRememberExactRow : OpenClaim := { program := "qxb6605559amods", sum := "aeba49363202c0785c90ce681c55f181382d7c9942f40cd19526284f577582a4", func := "example.com/hopwire/hopwire/zzlaws_internal_decode_b1.FnCounterRememberExact", spec := "fnCounterRememberExact", plainKeys := false, make := .lifted ["publicsums"], apart := false }
def FnCounterRememberExactSaid : Prop := fnCounterRememberExactRow.holds Trym.pinned (OpenSpec.ofChange fnCounterRememberExactSpec)

/-- ITS FALSE NEIGHBOUR: 'it returns false'. Refute it at one input. -/
def fnCounterRememberExactWrong : ChangeSpec := { name := "fnCounterRememberExact", fn := fun _ => fun
  | [d1, d2, d3, d4] => { results := [.lit (.bool false)], args := [d1, d2, d3, d4] }
  | _ => none }
def FnCounterRememberExactWrongFalsely : Prop := fnCounterRememberExactRow.holds Trym.pinned (OpenSpec.ofChange fnCounterRememberExactWrong)

end Rows
end Go.Proofs.Qxb6605559aMods
