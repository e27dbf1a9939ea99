import Derived.Test.Qxb6601415aModsK
namespace Go.Proofs.Qxb6601415aMods
open Go.RowKit Go.Extern.Stop
set_option linter.unusedVariables false
set_option maxRecDepth 20000


set_option maxHeartbeats 1000000 in
theorem idsEq_some (ba oa ca bb ob cb n : Nat) (f : Nat → List UInt8) (w : World) (hn : n ≤ 100000000) (hok : ∀ i, i < n → (f i).length = 20) (ha : WRow w ba oa n 20 (fun i => idc (f i))) (hb : WRow w bb ob n 20 (fun i => idc (f i))) :
    Calls Trym.prog 16 #[.slice (some ⟨ba, oa, none⟩) n ca, .slice (some ⟨bb, ob, none⟩) n cb] w fun e w' => e = .returned (.bool true) ∧ Below w.heap.size w w' := by
  have hn1 := fun W : World => Lib.run_eql_slice_nil (P := Trym.prog) W 28 34 (some ⟨ba, oa, none⟩) n ca 0 0 Trym.underlying28
  have hn2 := fun W : World => Lib.run_eql_slice_nil (P := Trym.prog) W 28 34 (some ⟨bb, ob, none⟩) n cb 0 0 Trym.underlying28
  have HR := hide (And.intro ha (And.intro hb hok))
  clear ha hb hok
  go_enter Trym.func16, Trym.ntmps16
  go_wp2
  clear hn1 hn2
  go_loopw [5] (fun i wr => ∃ k : Nat, k ≤ n ∧ i = .int .i64 k ∧ Below w.heap.size w wr) (fun i _ => n - (intOf i).toNat)
  case atStart => exact ⟨0, Nat.zero_le _, rfl, Below.refl _ _⟩
  case round =>
    obtain ⟨k, hk, rfl, hbel⟩ := hrel
    by_cases hlt : k < n
    · have hl : (idc (f k)).length = 20 := (by rw [idc_length, HR.out.2.2 k hlt])
      have hra := HR.out.1 k hlt
      have hrb := HR.out.2.1 k hlt
      have hra1 := rangeAt_below hbel (rangeAt_lt hra (by rw [hl]; omega)) hra
      have hrb1 := rangeAt_below hbel (rangeAt_lt hrb (by rw [hl]; omega)) hrb
      clear hra hrb
      go_wp2
      refine wp_region_lex (fun w' => w'.rangeAt ba (oa + k * 20) (idc (f k)) ∧ w'.rangeAt bb (ob + k * 20) (idc (f k))) (by kernel_rfl) (by kernel_rfl) ⟨(World.rangeAt_drew _ _ _ _).2 hra1, (World.rangeAt_drew _ _ _ _).2 hrb1⟩ ?_
      refine lex_mv (.slice (some ⟨ba, oa, none⟩) n ca) _ rfl rfl rfl ?_
      simp only [Act.put, List.setIfInBounds_toArray, List.set_cons_zero, List.set_cons_succ]
      refine lex_mv (.int .i64 (k : Int)) _ rfl rfl rfl ?_
      simp only [Act.put, List.setIfInBounds_toArray, List.set_cons_zero, List.set_cons_succ]
      refine lex_index 28 34 _ _ ba oa n ca k 20 rfl rfl rfl rfl hlt Trym.underlying28 i34 ?_
      simp only [Act.put, List.setIfInBounds_toArray, List.set_cons_zero, List.set_cons_succ]
      refine lex_load 34 _ ba (oa + k * 20) (idc (f k)) _ rfl rfl rfl (fun _ h => h.1) Trym.underlying34 rfl (by rw [i34, hl]) ?_
      simp only [Act.put, List.setIfInBounds_toArray, List.set_cons_zero, List.set_cons_succ]
      refine lex_mv (.slice (some ⟨bb, ob, none⟩) n cb) _ rfl rfl rfl ?_
      simp only [Act.put, List.setIfInBounds_toArray, List.set_cons_zero, List.set_cons_succ]
      refine lex_mv (.int .i64 (k : Int)) _ rfl rfl rfl ?_
      simp only [Act.put, List.setIfInBounds_toArray, List.set_cons_zero, List.set_cons_succ]
      refine lex_index 28 34 _ _ bb ob n cb k 20 rfl rfl rfl rfl hlt Trym.underlying28 i34 ?_
      simp only [Act.put, List.setIfInBounds_toArray, List.set_cons_zero, List.set_cons_succ]
      refine lex_load 34 _ bb (ob + k * 20) (idc (f k)) _ rfl rfl rfl (fun _ h => h.2) Trym.underlying34 rfl (by rw [i34, hl]) ?_
      simp only [Act.put, List.setIfInBounds_toArray, List.set_cons_zero, List.set_cons_succ]
      refine lex_bin .neq 34 34 _ _ (.agg (idc (f k)).toArray) (.agg (idc (f k)).toArray) (.bool false) rfl rfl rfl rfl (guard34 _ _ _ _ _) (fun w => by rw [neq34 (f k) (f k) (HR.out.2.2 k hlt) (HR.out.2.2 k hlt), beq_self_eq_true]; rfl) ?_
      simp only [Act.put, List.setIfInBounds_toArray, List.set_cons_zero, List.set_cons_succ]
      refine lex_nil (NoPanic.normal ?_)
      clear hra1 hrb1 hl
      go_wp2
      go_roundw
      case rel => exact ⟨k + 1, by omega, by go_num, hbel.drew⟩
      case measure => simp [intOf]; omega
    · have : k = n := by omega
      subst this
      go_wp2
      go_ret
      exact ⟨rfl, hbel⟩

theorem idsEq_nil (w : World) : Calls Trym.prog 16 #[.slice none 0 0, .slice none 0 0] w fun e w' => e = .returned (.bool true) ∧ Below w.heap.size w w' := by
  have hn1 := fun W : World => Lib.run_eql_slice_nil (P := Trym.prog) W 28 34 none 0 0 0 0 Trym.underlying28
  go_enter Trym.func16, Trym.ntmps16
  go_wp2
  refine wp_loop_rounds 1 ?_
  rw [rounds_succ]
  go_wp2
  go_ret
  exact ⟨rfl, Below.refl _ _⟩

theorem idsEq_any (va vb : Value) (n : Nat) (f : Nat → List UInt8) (w : World) (hn : n ≤ 100000000) (ha : IdsV w va n f) (hb : IdsV w vb n f) (hnil : va = .slice none 0 0 ↔ vb = .slice none 0 0) :
    Calls Trym.prog 16 #[va, vb] w fun e w' => e = .returned (.bool true) ∧ Below w.heap.size w w' := by
  obtain ⟨⟨rfl, rfl⟩ | ⟨b, off, cap, rfl, hr⟩, hl⟩ := ha
  · rw [hnil.1 rfl]
    exact idsEq_nil w
  · obtain ⟨⟨rfl, rfl⟩ | ⟨b', off', cap', rfl, hr'⟩, hl'⟩ := hb
    · exact absurd (hnil.2 rfl) (by simp)
    · exact idsEq_some b off cap b' off' cap' n f w hn hl hr hr'

set_option maxHeartbeats 1000000 in
theorem treesEq_some (ba oa ca bb ob cb n : Nat) (f : Nat → Tr) (w : World) (hn : n ≤ 100000000) (hok : ∀ i, i < n → (f i).ok) (ha : WRow w ba oa n 43 (fun i => trc (f i))) (hb : WRow w bb ob n 43 (fun i => trc (f i))) :
    Calls Trym.prog 28 #[.slice (some ⟨ba, oa, none⟩) n ca, .slice (some ⟨bb, ob, none⟩) n cb] w fun e w' => e = .returned (.bool true) ∧ Below w.heap.size w w' := by
  have hn1 := fun W : World => Lib.run_eql_slice_nil (P := Trym.prog) W 49 60 (some ⟨ba, oa, none⟩) n ca 0 0 Trym.underlying49
  have hn2 := fun W : World => Lib.run_eql_slice_nil (P := Trym.prog) W 49 60 (some ⟨bb, ob, none⟩) n cb 0 0 Trym.underlying49
  have HR := hide (And.intro ha (And.intro hb hok))
  clear ha hb hok
  go_enter Trym.func28, Trym.ntmps28
  go_wp2
  clear hn1 hn2
  go_loopw [5] (fun i wr => ∃ k : Nat, k ≤ n ∧ i = .int .i64 k ∧ Below w.heap.size w wr) (fun i _ => n - (intOf i).toNat)
  case atStart => exact ⟨0, Nat.zero_le _, rfl, Below.refl _ _⟩
  case round =>
    obtain ⟨k, hk, rfl, hbel⟩ := hrel
    by_cases hlt : k < n
    · have hl : (trc (f k)).length = 43 := trc_length (HR.out.2.2 k hlt)
      have hra := HR.out.1 k hlt
      have hrb := HR.out.2.1 k hlt
      have hra1 := rangeAt_below hbel (rangeAt_lt hra (by rw [hl]; omega)) hra
      have hrb1 := rangeAt_below hbel (rangeAt_lt hrb (by rw [hl]; omega)) hrb
      clear hra hrb
      go_wp2
      refine wp_region_lex (fun w' => w'.rangeAt ba (oa + k * 43) (trc (f k)) ∧ w'.rangeAt bb (ob + k * 43) (trc (f k))) (by kernel_rfl) (by kernel_rfl) ⟨(World.rangeAt_drew _ _ _ _).2 hra1, (World.rangeAt_drew _ _ _ _).2 hrb1⟩ ?_
      refine lex_mv (.slice (some ⟨ba, oa, none⟩) n ca) _ rfl rfl rfl ?_
      simp only [Act.put, List.setIfInBounds_toArray, List.set_cons_zero, List.set_cons_succ]
      refine lex_mv (.int .i64 (k : Int)) _ rfl rfl rfl ?_
      simp only [Act.put, List.setIfInBounds_toArray, List.set_cons_zero, List.set_cons_succ]
      refine lex_index 49 60 _ _ ba oa n ca k 43 rfl rfl rfl rfl hlt Trym.underlying49 i60 ?_
      simp only [Act.put, List.setIfInBounds_toArray, List.set_cons_zero, List.set_cons_succ]
      refine lex_load 60 _ ba (oa + k * 43) (trc (f k)) _ rfl rfl rfl (fun _ h => h.1) Trym.underlying60 rfl (by rw [i60, hl]) ?_
      simp only [Act.put, List.setIfInBounds_toArray, List.set_cons_zero, List.set_cons_succ]
      refine lex_mv (.slice (some ⟨bb, ob, none⟩) n cb) _ rfl rfl rfl ?_
      simp only [Act.put, List.setIfInBounds_toArray, List.set_cons_zero, List.set_cons_succ]
      refine lex_mv (.int .i64 (k : Int)) _ rfl rfl rfl ?_
      simp only [Act.put, List.setIfInBounds_toArray, List.set_cons_zero, List.set_cons_succ]
      refine lex_index 49 60 _ _ bb ob n cb k 43 rfl rfl rfl rfl hlt Trym.underlying49 i60 ?_
      simp only [Act.put, List.setIfInBounds_toArray, List.set_cons_zero, List.set_cons_succ]
      refine lex_load 60 _ bb (ob + k * 43) (trc (f k)) _ rfl rfl rfl (fun _ h => h.2) Trym.underlying60 rfl (by rw [i60, hl]) ?_
      simp only [Act.put, List.setIfInBounds_toArray, List.set_cons_zero, List.set_cons_succ]
      refine lex_bin .neq 60 60 _ _ (.agg (trc (f k)).toArray) (.agg (trc (f k)).toArray) (.bool false) rfl rfl rfl rfl (guard60 _ _ _ _ _) (neq60 (HR.out.2.2 k hlt)) ?_
      simp only [Act.put, List.setIfInBounds_toArray, List.set_cons_zero, List.set_cons_succ]
      refine lex_nil (NoPanic.normal ?_)
      clear hra1 hrb1 hl
      go_wp2
      go_roundw
      case rel => exact ⟨k + 1, by omega, by go_num, hbel.drew⟩
      case measure => simp [intOf]; omega
    · have : k = n := by omega
      subst this
      go_wp2
      go_ret
      exact ⟨rfl, hbel⟩

theorem treesEq_nil (w : World) : Calls Trym.prog 28 #[.slice none 0 0, .slice none 0 0] w fun e w' => e = .returned (.bool true) ∧ Below w.heap.size w w' := by
  have hn1 := fun W : World => Lib.run_eql_slice_nil (P := Trym.prog) W 49 60 none 0 0 0 0 Trym.underlying49
  go_enter Trym.func28, Trym.ntmps28
  go_wp2
  refine wp_loop_rounds 1 ?_
  rw [rounds_succ]
  go_wp2
  go_ret
  exact ⟨rfl, Below.refl _ _⟩

theorem treesEq_any (va vb : Value) (n : Nat) (f : Nat → Tr) (w : World) (hn : n ≤ 100000000) (ha : TreesV w va n f) (hb : TreesV w vb n f) (hnil : va = .slice none 0 0 ↔ vb = .slice none 0 0) :
    Calls Trym.prog 28 #[va, vb] w fun e w' => e = .returned (.bool true) ∧ Below w.heap.size w w' := by
  obtain ⟨⟨rfl, rfl⟩ | ⟨b, off, cap, rfl, hr⟩, hl⟩ := ha
  · rw [hnil.1 rfl]
    exact treesEq_nil w
  · obtain ⟨⟨rfl, rfl⟩ | ⟨b', off', cap', rfl, hr'⟩, hl'⟩ := hb
    · exact absurd (hnil.2 rfl) (by simp)
    · exact treesEq_some b off cap b' off' cap' n f w hn hl hr hr'

end Go.Proofs.Qxb6601415aMods
