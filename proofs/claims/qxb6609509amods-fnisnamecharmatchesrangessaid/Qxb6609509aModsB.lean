import Derived.Test.Qxb6609509aModsA
namespace Go.Proofs.Qxb6609509aMods
open Go.RowKit
set_option linter.unusedVariables false

theorem gaps (r : Int) (h : ¬ startP r) : r < 58 ∨ (58 < r ∧ r < 65) ∨ (90 < r ∧ r < 95) ∨ (95 < r ∧ r < 97) ∨ (122 < r ∧ r < 192) ∨ (214 < r ∧ r < 216) ∨ (246 < r ∧ r < 248) ∨ (767 < r ∧ r < 880) ∨ (893 < r ∧ r < 895) ∨
    (8191 < r ∧ r < 8204) ∨ (8205 < r ∧ r < 8304) ∨ (8591 < r ∧ r < 11264) ∨ (12271 < r ∧ r < 12289) ∨ (55295 < r ∧ r < 63744) ∨ (64975 < r ∧ r < 65008) ∨ (65533 < r ∧ r < 65536) ∨ 983039 < r := by
  unfold startP at h
  omega

set_option maxHeartbeats 4000000 in
theorem start_low (r : Int) (w : World) (e1 : (r == 58) = false) (e2 : (r == 95) = false) (h : r < 65) : Calls Trym.prog 15 #[.int .i32 r] w fun e w' => e = .returned (.bool false) ∧ w' = w := by
  go_enter Trym.func15, Trym.ntmps15
  go_wp2
  all_goals (go_ret; exact ⟨rfl, rfl⟩)
set_option maxHeartbeats 4000000 in
theorem start_mid (r : Int) (w : World) (e1 : (r == 58) = false) (e2 : (r == 95) = false) (e3 : decide (r ≤ 90) = false) (h1 : 90 < r) (h : r < 97) : Calls Trym.prog 15 #[.int .i32 r] w fun e w' => e = .returned (.bool false) ∧ w' = w := by
  go_enter Trym.func15, Trym.ntmps15
  go_wp2
  all_goals (go_ret; exact ⟨rfl, rfl⟩)
set_option maxHeartbeats 16000000 in
theorem start_high (r : Int) (w : World) (e1 : (r == 58) = false) (e2 : (r == 95) = false) (e3 : decide (r ≤ 90) = false) (e4 : decide (r ≤ 122) = false)
    (hg : (122 < r ∧ r < 192) ∨ (214 < r ∧ r < 216) ∨ (246 < r ∧ r < 248) ∨ (767 < r ∧ r < 880) ∨ (893 < r ∧ r < 895) ∨
    (8191 < r ∧ r < 8204) ∨ (8205 < r ∧ r < 8304) ∨ (8591 < r ∧ r < 11264) ∨ (12271 < r ∧ r < 12289) ∨ (55295 < r ∧ r < 63744) ∨ (64975 < r ∧ r < 65008) ∨ (65533 < r ∧ r < 65536) ∨ 983039 < r) : Calls Trym.prog 15 #[.int .i32 r] w fun e w' => e = .returned (.bool false) ∧ w' = w := by
  rcases hg with h | h | h | h | h | h | h | h | h | h | h | h | h
  all_goals (try obtain ⟨h1, h2⟩ := h)
  all_goals (go_enter Trym.func15, Trym.ntmps15; go_wp2; all_goals (go_ret; exact ⟨rfl, rfl⟩))

theorem start_no (r : Int) (w : World) (h : ¬ startP r) : Calls Trym.prog 15 #[.int .i32 r] w fun e w' => e = .returned (.bool false) ∧ w' = w := by
  have hg := gaps r h
  have e1 : (r == 58) = false := by simp; omega
  have e2 : (r == 95) = false := by simp; omega
  rcases hg with h | h | h | h | h
  · exact start_low r w e1 e2 (by omega)
  · exact start_low r w e1 e2 (by omega)
  · exact start_mid r w e1 e2 (by simp; omega) (by omega) (by omega)
  · exact start_mid r w e1 e2 (by simp; omega) (by omega) (by omega)
  · exact start_high r w e1 e2 (by simp; omega) (by simp; omega) h

end Go.Proofs.Qxb6609509aMods
