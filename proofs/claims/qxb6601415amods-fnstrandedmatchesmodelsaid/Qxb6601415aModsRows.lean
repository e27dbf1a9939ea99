/-
  No cell of these rows narrows 'for every input' (looked for: loops, veiled, ifaces, maps, wideKeys, modest, calm, conditions, laid).
  DERIVED. THE GIVEN ROWS OF THIS SEAT. 4 by the template 'for every input the law returns true; each argument reads behind the call as it read before'; 0 by the template 'total and deterministic' (their statements: Qxb6601415aModsTotals.lean).
  GIVEN WITH THE SEED: the statements are not yours to turn. If you find one false, say at which input.
  Laid BY PROGRAM, IN A SANDBOX (cutbox-rows.mjs): the forced cells as the released guide's own fill.sh prints them over the translation cd61027fe13d72ef… (all of the seat's roots in one cut). By AI agents, Wed Nov 11 2026. No macro, syntax, notation, axiom, sorry.
-/
import Derived.Test.Qxb6601415aModsChecked
import GoSem.Claim
import GoSem.ClaimJoined
import GoSem.ClaimMapViews
import Derived.JoinedTies
import Derived.KernelRfl
namespace Go.Proofs.Qxb6601415aMods
/- THE CELL 'sum', in the pinned program and in every row, IS THE sha256 OF THE DUMP (.gsa) THAT Qxb6601415aModsProg.lean LOADS. Nothing in Lean hashes anything: it is a label: what it is worth is what the hold of that sum in a sandbox is worth. -/
noncomputable def Trym.pinned : Pinned := { name := "qxb6601415amods", sum := "cd61027fe13d72efef304c4f88bc569174c19e3b2a3af4843ba47a9ddbee8b66", checked := Trym.checked }
namespace Rows
def none {H : Type} : Left H := { results := [], args := [] }

/-- 'zzlaws_internal_repo_b1.FnConfigNextScanReadsCRLFAsLF': WHATEVER THE INPUT: true; the input reads as it did. -/
def fnConfigNextScanReadsCRLFAsLFSpec : ChangeSpec := { name := "fnConfigNextScanReadsCRLFAsLF", fn := fun _ => fun
  | [d] => { results := [.lit (.bool true)], args := [d] }
  | _ => none }
def fnConfigNextScanReadsCRLFAsLFRow : OpenClaim := { program := "qxb6601415amods", sum := "cd61027fe13d72efef304c4f88bc569174c19e3b2a3af4843ba47a9ddbee8b66", func := "example.com/packwire/packwire/zzlaws_internal_repo_b1.FnConfigNextScanReadsCRLFAsLF", spec := "fnConfigNextScanReadsCRLFAsLF", plainKeys := false, make := .lifted ["publicsums"], apart := false }
def FnConfigNextScanReadsCRLFAsLFSaid : Prop := fnConfigNextScanReadsCRLFAsLFRow.holds Trym.pinned (OpenSpec.ofChange fnConfigNextScanReadsCRLFAsLFSpec)

/-- ITS FALSE NEIGHBOUR: 'it returns false'. Refute it at one input. -/
def fnConfigNextScanReadsCRLFAsLFWrong : ChangeSpec := { name := "fnConfigNextScanReadsCRLFAsLF", fn := fun _ => fun
  | [d] => { results := [.lit (.bool false)], args := [d] }
  | _ => none }
def FnConfigNextScanReadsCRLFAsLFWrongFalsely : Prop := fnConfigNextScanReadsCRLFAsLFRow.holds Trym.pinned (OpenSpec.ofChange fnConfigNextScanReadsCRLFAsLFWrong)

/-- 'zzlaws_internal_repo_b1.FnFindBoundsSplitsOverFound': WHATEVER THE INPUT: true; the input reads as it did. -/
def fnFindBoundsSplitsOverFoundSpec : ChangeSpec := { name := "fnFindBoundsSplitsOverFound", fn := fun _ => fun
  | [d1, d2, d3, d4] => { results := [.lit (.bool true)], args := [d1, d2, d3, d4] }
  | _ => none }
def fnFindBoundsSplitsOverFoundRow : OpenClaim := { program := "qxb6601415amods", sum := "cd61027fe13d72efef304c4f88bc569174c19e3b2a3af4843ba47a9ddbee8b66", func := "example.com/packwire/packwire/zzlaws_internal_repo_b1.FnFindBoundsSplitsOverFound", spec := "fnFindBoundsSplitsOverFound", plainKeys := false, make := .lifted ["publicsums"], apart := false }
def FnFindBoundsSplitsOverFoundSaid : Prop := fnFindBoundsSplitsOverFoundRow.holds Trym.pinned (OpenSpec.ofChange fnFindBoundsSplitsOverFoundSpec)

/-- ITS FALSE NEIGHBOUR: 'it returns false'. Refute it at one input. -/
def fnFindBoundsSplitsOverFoundWrong : ChangeSpec := { name := "fnFindBoundsSplitsOverFound", fn := fun _ => fun
  | [d1, d2, d3, d4] => { results := [.lit (.bool false)], args := [d1, d2, d3, d4] }
  | _ => none }
def FnFindBoundsSplitsOverFoundWrongFalsely : Prop := fnFindBoundsSplitsOverFoundRow.holds Trym.pinned (OpenSpec.ofChange fnFindBoundsSplitsOverFoundWrong)

/-- 'zzlaws_internal_repo_b1.FnStrandedMatchesModel': WHATEVER THE INPUT: true; the input reads as it did. -/
def fnStrandedMatchesModelSpec : ChangeSpec := { name := "fnStrandedMatchesModel", fn := fun _ => fun
  | [d1, d2, d3] => { results := [.lit (.bool true)], args := [d1, d2, d3] }
  | _ => none }
def fnStrandedMatchesModelRow : OpenClaim := { program := "qxb6601415amods", sum := "cd61027fe13d72efef304c4f88bc569174c19e3b2a3af4843ba47a9ddbee8b66", func := "example.com/packwire/packwire/zzlaws_internal_repo_b1.FnStrandedMatchesModel", spec := "fnStrandedMatchesModel", plainKeys := false, make := .lifted ["publicsums"], apart := false }
def FnStrandedMatchesModelSaid : Prop := fnStrandedMatchesModelRow.holds Trym.pinned (OpenSpec.ofChange fnStrandedMatchesModelSpec)

/-- ITS FALSE NEIGHBOUR: 'it returns false'. Refute it at one input. -/
def fnStrandedMatchesModelWrong : ChangeSpec := { name := "fnStrandedMatchesModel", fn := fun _ => fun
  | [d1, d2, d3] => { results := [.lit (.bool false)], args := [d1, d2, d3] }
  | _ => none }
def FnStrandedMatchesModelWrongFalsely : Prop := fnStrandedMatchesModelRow.holds Trym.pinned (OpenSpec.ofChange fnStrandedMatchesModelWrong)

/-- 'zzlaws_internal_repo_b1.FnStrandedKeepsGoodOrder': WHATEVER THE INPUT: true; the input reads as it did. -/
def fnStrandedKeepsGoodOrderSpec : ChangeSpec := { name := "fnStrandedKeepsGoodOrder", fn := fun _ => fun
  | [d1, d2, d3] => { results := [.lit (.bool true)], args := [d1, d2, d3] }
  | _ => none }
def fnStrandedKeepsGoodOrderRow : OpenClaim := { program := "qxb6601415amods", sum := "cd61027fe13d72efef304c4f88bc569174c19e3b2a3af4843ba47a9ddbee8b66", func := "example.com/packwire/packwire/zzlaws_internal_repo_b1.FnStrandedKeepsGoodOrder", spec := "fnStrandedKeepsGoodOrder", plainKeys := false, make := .lifted ["publicsums"], apart := false }
def FnStrandedKeepsGoodOrderSaid : Prop := fnStrandedKeepsGoodOrderRow.holds Trym.pinned (OpenSpec.ofChange fnStrandedKeepsGoodOrderSpec)

/-- ITS FALSE NEIGHBOUR: 'it returns false'. Refute it at one input. -/
def fnStrandedKeepsGoodOrderWrong : ChangeSpec := { name := "fnStrandedKeepsGoodOrder", fn := fun _ => fun
  | [d1, d2, d3] => { results := [.lit (.bool false)], args := [d1, d2, d3] }
  | _ => none }
def FnStrandedKeepsGoodOrderWrongFalsely : Prop := fnStrandedKeepsGoodOrderRow.holds Trym.pinned (OpenSpec.ofChange fnStrandedKeepsGoodOrderWrong)

end Rows
end Go.Proofs.Qxb6601415aMods
