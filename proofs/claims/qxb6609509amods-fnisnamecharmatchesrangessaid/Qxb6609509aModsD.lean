import Derived.Test.Qxb6609509aModsC
namespace Go.Proofs.Qxb6609509aMods
open Go.RowKit
set_option linter.unusedVariables false

/-- The k-th range's first character. -/
def rA (k : Nat) : Int := [45, 48, 65, 95, 97, 183, 192, 216, 248, 895, 8204, 8255, 8304, 11264, 12289, 63744, 65008].getD k 65536
/-- .. and its last. -/
def rB (k : Nat) : Int := [46, 58, 90, 95, 122, 183, 214, 246, 893, 8191, 8205, 8256, 8591, 12271, 55295, 64975, 65533].getD k 983039

theorem seventeen (k : Nat) (h : k ≤ 17) : k = 0 ∨ k = 1 ∨ k = 2 ∨ k = 3 ∨ k = 4 ∨ k = 5 ∨ k = 6 ∨ k = 7 ∨ k = 8 ∨ k = 9 ∨ k = 10 ∨ k = 11 ∨ k = 12 ∨ k = 13 ∨ k = 14 ∨ k = 15 ∨ k = 16 ∨ k = 17 := by omega

set_option maxHeartbeats 4000000 in
theorem range_lit (k : Nat) (w : World) (h : k ≤ 17) : Calls Trym.prog 14 #[.int .i64 k] w fun e w' => e = .returned (.tuple #[.int .i32 (rA k), .int .i32 (rB k)]) ∧ w' = w := by
  rcases seventeen k h with rfl | rfl | rfl | rfl | rfl | rfl | rfl | rfl | rfl | rfl | rfl | rfl | rfl | rfl | rfl | rfl | rfl | rfl
  all_goals (go_enter Trym.func14, Trym.ntmps14; go_wp2; go_ret2; exact ⟨rfl, rfl⟩)

/-- Behind the search: c ranges begin at or below r. -/
def Found (r : Int) (c : Nat) : Prop := c ≤ 18 ∧ (0 < c → rA (c - 1) ≤ r) ∧ (c < 18 → r < rA c)

theorem found_law {r : Int} {c : Nat} (h : Found r c) : nameP r ↔ (0 < c ∧ r ≤ rB (c - 1)) := by
  obtain ⟨h1, h2, h3⟩ := h
  have h18 : c = 18 ∨ c ≤ 17 := by omega
  unfold nameP startP tailP
  rcases h18 with rfl | h18
  · have a : (65536 : Int) ≤ r := h2 (by omega)
    have b : rB (18 - 1) = 983039 := rfl
    rw [b]
    omega
  · rcases seventeen c h18 with rfl | rfl | rfl | rfl | rfl | rfl | rfl | rfl | rfl | rfl | rfl | rfl | rfl | rfl | rfl | rfl | rfl | rfl
    all_goals simp [rA, rB] at h2 h3 ⊢
    all_goals omega

set_option maxHeartbeats 2000000 in
theorem ranges_any (r : Int) (w : World) : Calls Trym.prog 7 #[.int .i32 r] w fun e w' => (nameP r → e = .returned (.bool true)) ∧ (¬ nameP r → e = .returned (.bool false)) ∧ w' = w := by
  go_enter Trym.func7, Trym.ntmps7
  go_wp2
  go_loop [3, 4] (fun x y => ∃ lo hi : Nat, lo ≤ hi ∧ hi ≤ 18 ∧ x = .int .i64 lo ∧ y = .int .i64 hi ∧ (0 < lo → rA (lo - 1) ≤ r) ∧ (hi < 18 → r < rA hi)) (fun x y => (intOf y - intOf x).toNat)
  case atStart => exact ⟨0, 18, by omega, by omega, rfl, rfl, (fun h => by omega), (fun h => by omega)⟩
  case round =>
    obtain ⟨lo, hi, h1, h2, rfl, rfl, h3, h4⟩ := hrel
    by_cases hlt : lo < hi
    · obtain ⟨m, hm⟩ : ∃ m : Nat, (lo : Int) + ((hi : Int) - lo) / 2 = m := ⟨lo + (hi - lo) / 2, by omega⟩
      have m1 : lo ≤ m := by omega
      have m2 : m < hi := by omega
      have H3 : Hid (0 < lo → rA (lo - 1) ≤ r) := h3
      have H4 : Hid (hi < 18 → r < rA hi) := h4
      clear h3 h4
      by_cases hle : rA m ≤ r
      · go_wp2_with (go_at_call 14; refine (range_lit m _ (by omega)).mono ?_; rintro e w' ⟨rfl, rfl⟩)
        go_round
        case rel => exact ⟨m + 1, hi, by omega, h2, by go_num, rfl, (fun _ => by simpa using hle), H4.out⟩
        case measure => simp [intOf]; omega
      · go_wp2_with (go_at_call 14; refine (range_lit m _ (by omega)).mono ?_; rintro e w' ⟨rfl, rfl⟩)
        go_round
        case rel => exact ⟨lo, m, m1, by omega, rfl, by go_num, H3.out, (fun _ => by omega)⟩
        case measure => simp [intOf]; omega
    · have hlh : lo = hi := by omega
      subst hlh
      have F : Hid (Found r lo) := ⟨h2, h3, h4⟩
      clear h3 h4
      by_cases h0 : lo = 0
      · subst h0
        go_wp2
        go_ret
        exact ⟨fun h => absurd ((found_law F.out).1 h).1 (by omega), fun _ => rfl, rfl⟩
      · have hz : ((lo : Int) == 0) = false := by rw [beq_eq_false_iff_ne]; omega
        obtain ⟨k, hk⟩ : ∃ k : Nat, (lo : Int) - 1 = k := ⟨lo - 1, by omega⟩
        have hk' : lo - 1 = k := by omega
        by_cases hle : r ≤ rB k
        · go_wp2_with (go_at_call 14; refine (range_lit k _ (by omega)).mono ?_; rintro e w' ⟨rfl, rfl⟩)
          go_ret
          refine ⟨fun _ => by simp, fun h => absurd ((found_law F.out).2 ⟨by omega, by rw [hk']; exact hle⟩) h, rfl⟩
        · go_wp2_with (go_at_call 14; refine (range_lit k _ (by omega)).mono ?_; rintro e w' ⟨rfl, rfl⟩)
          go_ret
          refine ⟨fun h => ?_, fun _ => by simp; omega, rfl⟩
          have hx := ((found_law F.out).1 h).2
          rw [hk'] at hx
          omega

/-- FnIsNameCharMatchesRanges. -/
theorem matches_any (r : Int) (w : World) : Calls Trym.prog 3 #[.int .i32 r] w fun e w' => e = .returned (.bool true) ∧ w' = w := by
  by_cases h : nameP r
  · have H : Hid (nameP r) := h
    clear h
    go_enter Trym.func3, Trym.ntmps3
    go_wp2_with (first | (go_at_call 6; refine (zzName_yes r _ H.out).mono ?_; rintro e w' ⟨rfl, rfl⟩) | (go_at_call 7; refine (ranges_any r _).mono ?_; rintro e w' ⟨x, _, hw⟩; obtain rfl := x H.out; have hw2 := hw.symm; clear hw x; subst hw2))
    go_ret
    exact ⟨rfl, rfl⟩
  · have H : Hid (¬ nameP r) := h
    clear h
    go_enter Trym.func3, Trym.ntmps3
    go_wp2_with (first | (go_at_call 6; refine (zzName_no r _ H.out).mono ?_; rintro e w' ⟨rfl, rfl⟩) | (go_at_call 7; refine (ranges_any r _).mono ?_; rintro e w' ⟨_, x, hw⟩; obtain rfl := x H.out; have hw2 := hw.symm; clear hw x; subst hw2))
    go_ret
    exact ⟨rfl, rfl⟩

end Go.Proofs.Qxb6609509aMods
