import Derived.Test.Qxb6601415aModsE
namespace Go.Proofs.Qxb6601415aMods
open Go.RowKit
set_option linter.unusedVariables false

/-- Block bs is a scanner over nil. -/
def ScnN (w : World) (bs : Nat) : Prop := w.heap[bs]? = some (.cells #[.slice none 0 0, .int .i64 0, .int .i64 1] 63 (0, 0))
theorem ScnN.cells {w : World} {bs : Nat} (h : ScnN w bs) : w.cell? ⟨bs, 0, none⟩ = some (.slice none 0 0) ∧ w.cell? ⟨bs, 1, none⟩ = some (.int .i64 0) ∧ w.cell? ⟨bs, 2, none⟩ = some (.int .i64 1) := by
  unfold ScnN at h; simp [World.cell?, h]

theorem peek_nil (bs : Nat) (w : World) (h : ScnN w bs) :
    Calls Trym.prog 39 #[.pointer (some ⟨bs, 0, none⟩)] w fun e w' => e = .returned (.tuple #[.int .u8 0, .bool false]) ∧ ∃ k, w' = w.drewN k := by
  obtain ⟨s0, s1, s2⟩ := h.cells
  clear h
  go_enter Trym.func39, Trym.ntmps39
  go_wp2
  go_quiet (fail)
  go_wp2
  go_ret2
  exact ⟨rfl, _, rfl⟩
theorem next_nil (bs : Nat) (w : World) (h : ScnN w bs) :
    Calls Trym.prog 30 #[.pointer (some ⟨bs, 0, none⟩)] w fun e w' => e = .returned (.tuple #[.int .u8 0, .bool false]) ∧ ScnN w' bs ∧ Below bs w w' := by
  have H := hide h
  clear h
  go_enter Trym.func30, Trym.ntmps30
  go_wp2_with fail
  refine (peek_nil bs _ H.out).mono ?_
  rintro e w' ⟨rfl, k, rfl⟩
  go_wp2
  go_ret2
  exact ⟨rfl, H.out, below_drewN (Below.refl _ _) _⟩
theorem cfgNext_nil (w : World) :
    Calls Trym.prog 9 #[.slice none 0 0, .int .i64 0, .int .i64 1] w fun e w' => e = .returned (.tuple #[.int .u8 0, .bool false, .int .i64 0, .int .i64 1]) ∧ Below w.heap.size w w' := by
  have S0 : Hid (ScnN (w.alloc (.cells #[.slice none 0 0, .int .i64 0, .int .i64 1] 63)) w.heap.size) := by
    show (w.heap.push _)[w.heap.size]? = _
    simp
  go_enter Trym.func9, Trym.ntmps9
  go_wp2_with fail
  refine (next_nil _ _ S0.out).mono ?_
  rintro e w1 ⟨rfl, hS, hb⟩
  obtain ⟨s0, s1, s2⟩ := hS.cells
  have F := hide (((Below.refl w.heap.size w).alloc (Nat.le_refl _) (.cells #[.slice none 0 0, .int .i64 0, .int .i64 1] 63)).trans hb)
  clear hS hb S0
  go_wp2
  go_quiet (fail)
  go_wp2
  exact bodyPost_ret (v := .tuple #[.int .u8 0, .bool false, .int .i64 0, .int .i64 1]) (by simp [results, Trym.results9, go_sem]) rfl ⟨rfl, below_drewN F.out _⟩

theorem clone_empty (x : Addr) (cap : Nat) (w : World) : Calls Trym.prog 8 #[.slice (some x) 0 cap] w fun er w' => er = .returned (.slice (some ⟨w.heap.size, 0, none⟩) 0 0) ∧ Row w' w.heap.size 0 (fun _ => 0) ∧ Below w.heap.size w w' := by
  have hnil := fun W : World => Lib.run_eql_slice_nil (P := Trym.prog) W 22 5 (some x) 0 cap 0 0 Trym.underlying22
  have hmk := make5 0 (by omega)
  simp only [Int.natCast_zero] at hmk
  have H0 : Hid (Row (w.alloc (.cells (madeCells #[.int .u8 0] 0) 5)) w.heap.size 0 (fun _ => 0)) := by
    have := World.rowIs_alloc w (madeCells #[.int .u8 0] 0) 5 (fun _ => .int .u8 0) (fun i hi => by
      rw [size_madeCells] at hi
      omega)
    rw [size_madeCells] at this
    exact this
  go_enter Trym.func8, Trym.ntmps8
  go_wp2
  refine wp_loop_rounds 1 ?_
  rw [rounds_succ]
  go_wp2
  go_ret
  exact ⟨rfl, H0.out, (Below.refl _ _).alloc (Nat.le_refl _) _⟩

theorem law_long (a : Option Addr) (len cap : Nat) (w : World) (h : 1048576 < len) (hm : len ≤ 9223372036854775807) : Calls Trym.prog 3 #[.slice a len cap] w fun e w' => e = .returned (.bool true) ∧ Below w.heap.size w w' := by
  go_enter Trym.func3, Trym.ntmps3
  go_wp2_with fail
  refine (zzB_no _ _ _ _ h hm).mono ?_
  rintro er w1 ⟨rfl, hw1⟩
  have hw2 := hw1.symm
  clear hw1
  subst hw2
  go_wp2
  go_ret
  exact ⟨rfl, Below.refl _ _⟩

theorem make0 (w : World) : (Instr.makeSlice 22 (.int .i64 0) (.int .i64 0)).run Trym.prog w = .ok (.slice (some ⟨w.heap.size, 0, none⟩) 0 0) (w.alloc (.cells (madeCells #[.int .u8 0] 0) 5)) := make5 0 (by omega) w

set_option maxHeartbeats 1000000 in
theorem law_nil (w : World) : Calls Trym.prog 3 #[.slice none 0 0] w fun e w' => e = .returned (.bool true) ∧ Below w.heap.size w w' := by
  have hmk := make0
  go_enter Trym.func3, Trym.ntmps3
  go_wp2_with fail
  refine (zzB_yes none 0 0 _ (by omega)).mono ?_
  rintro er w1 ⟨rfl, hw1⟩
  have hw2 := hw1.symm
  clear hw1
  subst hw2
  go_wp2_with fail
  refine (clone_nil _).mono ?_
  rintro er w1 ⟨rfl, hw1⟩
  have hw2 := hw1.symm
  clear hw1
  subst hw2
  go_wp2
  refine wp_loop_rounds 1 ?_
  rw [rounds_succ]
  go_wp2
  refine wp_loop_rounds 1 ?_
  rw [rounds_succ]
  go_wp2_with fail
  refine (cfgNext_nil _).mono ?_
  rintro er w5 ⟨rfl, hb5⟩
  have B5 := hide ((((Below.refl w.heap.size w).alloc (Nat.le_refl _) (.cells (madeCells #[.int .u8 0] 0) 5)).alloc (by simp) (.cells (madeCells #[.int .u8 0] 0) 5)).trans (hb5.mono (by simp; omega)))
  have z5 := hb5.size
  simp at z5
  clear hb5
  go_wp2_with fail
  refine (beq_any (w.heap.size + 1) w.heap.size 0 0 0 (fun _ => 0) _ (by omega) (by omega) (by omega) (fun i h => by omega)).mono ?_
  rintro er w6 ⟨rfl, hb6⟩
  have B6 := hide (B5.out.trans (hb6.mono B5.out.size))
  clear B5 hb6
  go_wp2
  go_ret
  exact ⟨rfl, B6.out⟩

end Go.Proofs.Qxb6601415aMods
