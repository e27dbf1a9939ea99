import Derived.Test.Qxb6609509aModsB
namespace Go.Proofs.Qxb6609509aMods
open Go.RowKit
set_option linter.unusedVariables false

theorem zzStart_yes (r : Int) (w : World) (h : startP r) : Calls Trym.prog 8 #[.int .i32 r] w fun e w' => e = .returned (.bool true) ∧ w' = w := by
  go_enter Trym.func8, Trym.ntmps8
  go_wp2_with (go_at_call 15; refine (start_yes r _ h).mono ?_; rintro e w' ⟨rfl, rfl⟩)
  go_ret
  exact ⟨rfl, rfl⟩
theorem zzStart_no (r : Int) (w : World) (h : ¬ startP r) : Calls Trym.prog 8 #[.int .i32 r] w fun e w' => e = .returned (.bool false) ∧ w' = w := by
  go_enter Trym.func8, Trym.ntmps8
  go_wp2_with (go_at_call 15; refine (start_no r _ h).mono ?_; rintro e w' ⟨rfl, rfl⟩)
  go_ret
  exact ⟨rfl, rfl⟩

theorem name_start (r : Int) (w : World) (h : startP r) : Calls Trym.prog 13 #[.int .i32 r] w fun e w' => e = .returned (.bool true) ∧ w' = w := by
  have H : Hid (startP r) := h
  clear h
  go_enter Trym.func13, Trym.ntmps13
  go_wp2_with (go_at_call 15; refine (start_yes r _ H.out).mono ?_; rintro e w' ⟨rfl, rfl⟩)
  go_ret
  exact ⟨rfl, rfl⟩

theorem tail_not_start (r : Int) (h : tailP r) : ¬ startP r := by unfold tailP at h; unfold startP; omega

set_option maxHeartbeats 4000000 in
theorem name_tail (r : Int) (w : World) (h : tailP r) : Calls Trym.prog 13 #[.int .i32 r] w fun e w' => e = .returned (.bool true) ∧ w' = w := by
  have H : Hid (¬ startP r) := tail_not_start r h
  unfold tailP at h
  rcases h with rfl | rfl | h | rfl | h | h
  all_goals (try obtain ⟨h1, h2⟩ := h)
  all_goals
    go_enter Trym.func13, Trym.ntmps13
    go_wp2_with (go_at_call 15; refine (start_no _ _ H.out).mono ?_; rintro e w' ⟨rfl, rfl⟩)
    all_goals (go_ret; exact ⟨rfl, rfl⟩)

/-- The outcome of each test, where r is none of the tail. -/
def Tests (r : Int) (P : Prop) : Prop := ((r == 45) = false → (r == 46) = false → (r == 183) = false → r < 48 → P) ∧ ((r == 45) = false → (r == 46) = false → (r == 183) = false → decide (r ≤ 57) = false → 57 < r → r < 768 → P) ∧
  ((r == 45) = false → (r == 46) = false → (r == 183) = false → decide (r ≤ 57) = false → decide (r ≤ 879) = false → 879 < r → r < 8255 → P) ∧
  ((r == 45) = false → (r == 46) = false → (r == 183) = false → decide (r ≤ 57) = false → decide (r ≤ 879) = false → decide (r ≤ 8256) = false → 8256 < r → P)
theorem of_tests {r : Int} {P : Prop} (h : ¬ tailP r) (ht : Tests r P) : P := by
  unfold tailP at h
  obtain ⟨t1, t2, t3, t4⟩ := ht
  have e1 : (r == 45) = false := by simp; omega
  have e2 : (r == 46) = false := by simp; omega
  have e3 : (r == 183) = false := by simp; omega
  by_cases a : r < 48
  · exact t1 e1 e2 e3 a
  have f1 : decide (r ≤ 57) = false := by simp; omega
  by_cases b : r < 768
  · exact t2 e1 e2 e3 f1 (by omega) b
  have f2 : decide (r ≤ 879) = false := by simp; omega
  by_cases c : r < 8255
  · exact t3 e1 e2 e3 f1 f2 (by omega) c
  · exact t4 e1 e2 e3 f1 f2 (by simp; omega) (by omega)

set_option maxHeartbeats 4000000 in
theorem name_no (r : Int) (w : World) (h : ¬ startP r) (ht : ¬ tailP r) : Calls Trym.prog 13 #[.int .i32 r] w fun e w' => e = .returned (.bool false) ∧ w' = w := by
  have H : Hid (¬ startP r) := h
  refine of_tests ht ?_
  clear h ht
  refine ⟨?_, ?_, ?_, ?_⟩
  all_goals
    intros
    go_enter Trym.func13, Trym.ntmps13
    go_wp2_with (go_at_call 15; refine (start_no _ _ H.out).mono ?_; rintro e w' ⟨rfl, rfl⟩)
    all_goals (go_ret; exact ⟨rfl, rfl⟩)

/-- Is r a name character? -/
def nameP (r : Int) : Prop := startP r ∨ tailP r
theorem zzName_yes (r : Int) (w : World) (h : nameP r) : Calls Trym.prog 6 #[.int .i32 r] w fun e w' => e = .returned (.bool true) ∧ w' = w := by
  have hc : Calls Trym.prog 13 #[.int .i32 r] w fun e w' => e = .returned (.bool true) ∧ w' = w := by
    rcases h with h | h
    · exact name_start r w h
    · exact name_tail r w h
  have H : Hid (Calls Trym.prog 13 #[.int .i32 r] w fun e w' => e = .returned (.bool true) ∧ w' = w) := hc
  clear hc h
  go_enter Trym.func6, Trym.ntmps6
  go_wp2_with (go_at_call 13; refine H.out.mono ?_; rintro e w' ⟨rfl, hw'⟩; have hw2 := hw'.symm; clear hw'; subst hw2)
  go_ret
  exact ⟨rfl, rfl⟩
theorem zzName_no (r : Int) (w : World) (h : ¬ nameP r) : Calls Trym.prog 6 #[.int .i32 r] w fun e w' => e = .returned (.bool false) ∧ w' = w := by
  have hc := name_no r w (fun a => h (Or.inl a)) (fun a => h (Or.inr a))
  have H : Hid (Calls Trym.prog 13 #[.int .i32 r] w fun e w' => e = .returned (.bool false) ∧ w' = w) := hc
  clear hc h
  go_enter Trym.func6, Trym.ntmps6
  go_wp2_with (go_at_call 13; refine H.out.mono ?_; rintro e w' ⟨rfl, hw'⟩; have hw2 := hw'.symm; clear hw'; subst hw2)
  go_ret
  exact ⟨rfl, rfl⟩

set_option maxHeartbeats 4000000 in
/-- FnIsNameCharBeyondStart. -/
theorem beyond (r : Int) (w : World) : Calls Trym.prog 4 #[.int .i32 r] w fun e w' => e = .returned (.bool true) ∧ w' = w := by
  by_cases hs : startP r
  · have ht : ¬ tailP r := fun a => tail_not_start r a hs
    have HS : Hid (startP r) := hs
    have HN : Hid (nameP r) := Or.inl hs
    refine of_tests ht ?_
    clear hs ht
    refine ⟨?_, ?_, ?_, ?_⟩
    all_goals
      intros
      go_enter Trym.func4, Trym.ntmps4
      go_wp2_with (first | (go_at_call 8; refine (zzStart_yes _ _ HS.out).mono ?_; rintro e w' ⟨rfl, rfl⟩) | (go_at_call 6; refine (zzName_yes _ _ HN.out).mono ?_; rintro e w' ⟨rfl, rfl⟩))
      all_goals (go_ret; exact ⟨rfl, rfl⟩)
  · by_cases ht : tailP r
    · have HS : Hid (¬ startP r) := hs
      have HN : Hid (nameP r) := Or.inr ht
      unfold tailP at ht
      clear hs
      rcases ht with rfl | rfl | h | rfl | h | h
      all_goals (try obtain ⟨h1, h2⟩ := h)
      all_goals
        go_enter Trym.func4, Trym.ntmps4
        go_wp2_with (first | (go_at_call 8; refine (zzStart_no _ _ HS.out).mono ?_; rintro e w' ⟨rfl, rfl⟩) | (go_at_call 6; refine (zzName_yes _ _ HN.out).mono ?_; rintro e w' ⟨rfl, rfl⟩))
        all_goals (go_ret; exact ⟨rfl, rfl⟩)
    · have HS : Hid (¬ startP r) := hs
      have HN : Hid (¬ nameP r) := fun a => by rcases a with a | a; exact hs a; exact ht a
      refine of_tests ht ?_
      clear hs ht
      refine ⟨?_, ?_, ?_, ?_⟩
      all_goals
        intros
        go_enter Trym.func4, Trym.ntmps4
        go_wp2_with (first | (go_at_call 8; refine (zzStart_no _ _ HS.out).mono ?_; rintro e w' ⟨rfl, rfl⟩) | (go_at_call 6; refine (zzName_no _ _ HN.out).mono ?_; rintro e w' ⟨rfl, rfl⟩))
        all_goals (go_ret; exact ⟨rfl, rfl⟩)

end Go.Proofs.Qxb6609509aMods
