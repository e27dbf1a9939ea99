import Derived.Test.Qxb6601415aModsN
namespace Go.Proofs.Qxb6601415aMods
open Go.RowKit Go.Extern.Stop Go.Maps Go.ChangeMaps
set_option linter.unusedVariables false
set_option linter.unusedSimpArgs false
set_option maxRecDepth 20000

set_option maxHeartbeats 4000000 in
theorem law_over (a1 a2 a3 : Option Addr) (l1 c1 l2 c2 l3 c3 : Nat) (w : World) (h : ¬ (l1 ≤ 4096 ∧ l2 ≤ 4096 ∧ l3 ≤ 4096)) :
    Calls Trym.prog 5 #[.slice a1 l1 c1, .slice a2 l2 c2, .slice a3 l3 c3] w fun e w' => e = .returned (.bool true) ∧ Below w.heap.size w w' := by
  by_cases h1 : (4096 : Int) < (l1 : Int)
  · clear h
    go_enter Trym.func5, Trym.ntmps5
    go_wp2
    go_ret
    exact ⟨rfl, Below.refl _ _⟩
  · by_cases h2 : (4096 : Int) < (l2 : Int)
    · clear h
      go_enter Trym.func5, Trym.ntmps5
      go_wp2
      go_ret
      exact ⟨rfl, Below.refl _ _⟩
    · have h3 : (4096 : Int) < (l3 : Int) := by omega
      clear h
      go_enter Trym.func5, Trym.ntmps5
      go_wp2
      go_ret
      exact ⟨rfl, Below.refl _ _⟩

end Go.Proofs.Qxb6601415aMods
