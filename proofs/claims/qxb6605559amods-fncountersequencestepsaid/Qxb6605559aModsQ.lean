import Derived.Test.Qxb6605559aModsP
namespace Go.Proofs.Qxb6605559aMods
open Go.RowKit Go.Maps
set_option linter.unusedVariables false

set_option maxHeartbeats 2000000 in
theorem build_zero (a : Option Addr) (cap : Nat) (r t m u p l e cn ch cs : Int) (hc : Bool) (en eh : Nat → Int) (w : World) :
    Calls Trym.prog 8 #[stV a 0 cap false r t m u p l e cn ch cs hc] w fun er w' => ∃ bc bo, er = .returned (.tuple #[.pointer (some ⟨bc, 0, none⟩), .map (some bo), .slice a 0 cap]) ∧ Built w en eh 0 r t m u p l e cn ch cs hc bc bo w' := by
  have hmm := @run_makeMap Trym.prog
  go_enter Trym.func8, Trym.ntmps8
  go_wp2
  go_region_held3 (fun w' => w'.cell? ⟨w.heap.size, 2, none⟩ = some (.int .u64 r) ∧ w'.cell? ⟨w.heap.size, 3, none⟩ = some (.int .u64 t) ∧ w'.cell? ⟨w.heap.size, 4, none⟩ = some (.int .u64 m) ∧ w'.cell? ⟨w.heap.size, 5, none⟩ = some (.int .u64 u) ∧ w'.cell? ⟨w.heap.size, 6, none⟩ = some (.int .u64 p) ∧ w'.cell? ⟨w.heap.size, 7, none⟩ = some (.int .u64 l) ∧ w'.cell? ⟨w.heap.size, 8, none⟩ = some (.int .u64 e) ∧
      w'.cell? ⟨w.heap.size, 9, none⟩ = some (.int .u32 cn) ∧ w'.cell? ⟨w.heap.size, 10, none⟩ = some (.int .u8 ch) ∧ w'.cell? ⟨w.heap.size, 11, none⟩ = some (.int .u32 cs) ∧ w'.cell? ⟨w.heap.size, 12, none⟩ = some (.bool hc))
    (first | (simp [go_sem, World.cell?_alloc_past]; done) | (simp [go_sem, World.cell?_alloc_past, hcc]; done))
    (first
      | (go_at_call 25; refine (toStats_any r t m u p l e _).mono ?_; rintro er w' ⟨rfl, rfl⟩)
      | (go_at_call 24; refine (newCounter_abs r t m u p l e cn ch cs hc _).mono ?_; rintro er w1 ⟨rfl, hctr, ho, hb⟩; have hcc := (bcell hb).1))
  obtain ⟨bc, bl, hbc, F⟩ : ∃ bc bl, bc = w.heap.size + 1 + 1 + 1 + 2 ∧ Hid (Ctr w1 bc r t m u p l e (.map (some bl)) cn ch cs hc ∧ Own w1 bl (.map []) ∧ Below w.heap.size w w1 ∧ w.heap.size < bl ∧ bl < bc) := by
    refine ⟨_, w.heap.size + 1 + 1 + 1 + 1, rfl, ?_, ?_, ?_, by omega, by omega⟩
    · simpa using hctr
    · simpa using ho
    · have hb' := hb.mono (B' := w.heap.size) (by simp; omega)
      refine Below.trans ?_ hb'
      exact ((((Below.refl _ _).alloc (Nat.le_refl _) _).alloc (by simp) _).alloc (by simp; omega) _).drew
  rw [← hbc]
  have c0 : w1.cell? ⟨w.heap.size, 0, none⟩ = some (.slice a 0 cap) := by rw [hcc _ _ (by simp; omega)]; simp [go_sem, World.cell?_alloc_past]
  have c1 : w1.cell? ⟨w.heap.size, 1, none⟩ = some (.bool false) := by rw [hcc _ _ (by simp; omega)]; simp [go_sem, World.cell?_alloc_past]
  have hz : bc < w1.heap.size := F.out.1.lt
  obtain ⟨hl1, hl2⟩ := F.out.2.2.2
  have hz0 : w.heap.size < w1.heap.size := by omega
  clear hctr ho hb hcc hbc
  go_wp2_with fail
  refine wp_loop_rounds 1 ?_
  rw [rounds_succ]
  go_wp2
  go_quiet (fail)
  go_wp2
  go_ret3
  obtain ⟨f1, f2, f3, _⟩ := F.out
  exact ⟨bc, w1.heap.size, rfl, .map (some bl), .map [], .map [], (f1.alloc _).drewN _, Or.inr ⟨bl, rfl, own_drewN (own_alloc f2 _) _⟩, ownM_made w1, entInv_start en eh, by omega, by omega, (fun i e => by cases e; omega), below_drewN (f3.alloc f3.size _) _⟩

theorem build_any (a : Option Addr) (B len cap : Nat) (en eh eq : Nat → Int) (nm : Bool) (r t m u p l e cn ch cs : Int) (hc : Bool) (w : World) (hlen : len ≤ 65536) (hrow : RowE w a len en eh eq B)
    (hwf : ∀ i, i < len → (Lit.int .u32 (en i)).wf = true ∧ (Lit.int .u8 (eh i)).wf = true ∧ (Lit.int .u32 (eq i)).wf = true) :
    Calls Trym.prog 8 #[stV a len cap nm r t m u p l e cn ch cs hc] w fun er w' => ∃ bc bo a2 k c2, er = .returned (.tuple #[.pointer (some ⟨bc, 0, none⟩), .map (some bo), .slice a2 k c2]) ∧ k ≤ len ∧ RowE w a2 k en eh eq B ∧ Built w en eh k r t m u p l e cn ch cs hc bc bo w' := by
  cases nm
  · rcases hrow with rfl | ⟨rfl, hr⟩
    · refine (build_zero a cap r t m u p l e cn ch cs hc en eh w).mono ?_
      rintro er w' ⟨bc, bo, rfl, hb⟩
      exact ⟨bc, bo, a, 0, cap, rfl, Nat.le_refl _, Or.inl rfl, hb⟩
    · refine (build_some B len cap en eh eq r t m u p l e cn ch cs hc w hlen hr hwf).mono ?_
      rintro er w' ⟨bc, bo, rfl, hb⟩
      exact ⟨bc, bo, _, len, cap, rfl, Nat.le_refl _, Or.inr ⟨rfl, hr⟩, hb⟩
  · refine (build_nil a len cap r t m u p l e cn ch cs hc en eh w).mono ?_
    rintro er w' ⟨bc, bo, rfl, hb⟩
    exact ⟨bc, bo, none, 0, 0, rfl, Nat.zero_le _, Or.inl rfl, hb⟩

end Go.Proofs.Qxb6605559aMods
