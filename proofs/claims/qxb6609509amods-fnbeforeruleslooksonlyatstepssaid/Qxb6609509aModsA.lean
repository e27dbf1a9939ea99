import Derived.Test.Qxb6609509aModsProg
import Derived.WalkKit
import Derived.WalkSpells
namespace Go.Proofs.Qxb6609509aMods
open Go.RowKit
set_option linter.unusedVariables false

/-- May an XML name begin with r? -/
def startP (r : Int) : Prop :=
  r = 58 ∨ r = 95 ∨ (65 ≤ r ∧ r ≤ 90) ∨ (97 ≤ r ∧ r ≤ 122) ∨ (192 ≤ r ∧ r ≤ 214) ∨ (216 ≤ r ∧ r ≤ 246) ∨ (248 ≤ r ∧ r ≤ 767) ∨ (880 ≤ r ∧ r ≤ 893) ∨ (895 ≤ r ∧ r ≤ 8191) ∨ (8204 ≤ r ∧ r ≤ 8205) ∨
  (8304 ≤ r ∧ r ≤ 8591) ∨ (11264 ≤ r ∧ r ≤ 12271) ∨ (12289 ≤ r ∧ r ≤ 55295) ∨ (63744 ≤ r ∧ r ≤ 64975) ∨ (65008 ≤ r ∧ r ≤ 65533) ∨ (65536 ≤ r ∧ r ≤ 983039)
/-- The other characters that an XML name may hold. -/
def tailP (r : Int) : Prop := r = 45 ∨ r = 46 ∨ (48 ≤ r ∧ r ≤ 57) ∨ r = 183 ∨ (768 ≤ r ∧ r ≤ 879) ∨ (8255 ≤ r ∧ r ≤ 8256)

set_option maxHeartbeats 8000000 in
theorem start_yes (r : Int) (w : World) (h : startP r) : Calls Trym.prog 15 #[.int .i32 r] w fun e w' => e = .returned (.bool true) ∧ w' = w := by
  unfold startP at h
  rcases h with rfl | rfl | h | h | h | h | h | h | h | h | h | h | h | h | h | h
  all_goals (try obtain ⟨h1, h2⟩ := h)
  all_goals (go_enter Trym.func15, Trym.ntmps15; go_wp2; all_goals (go_ret; exact ⟨rfl, rfl⟩))

end Go.Proofs.Qxb6609509aMods
