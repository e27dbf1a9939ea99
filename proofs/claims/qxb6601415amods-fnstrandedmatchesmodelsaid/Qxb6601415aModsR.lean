import Derived.Test.Qxb6601415aModsQ
namespace Go.Proofs.Qxb6601415aMods
open Go.RowKit Go.Extern.Stop
set_option linter.unusedVariables false
set_option linter.unusedSimpArgs false
set_option maxRecDepth 20000

theorem trc_range {w : World} {b o : Nat} {t : Tr} (h : w.rangeAt b o (trc t)) (ht : t.ok) : w.rangeAt b (o + 0) (idc t.id) ∧ w.rangeAt b (o + 20) (idc t.ag) ∧ w.cell? ⟨b, o + 40, none⟩ = some (.int .i64 t.fo) ∧ w.cell? ⟨b, o + 41, none⟩ = some (.int .i64 t.de) ∧ w.cell? ⟨b, o + 42, none⟩ = some (.bool t.wa) := by
  have h1 : (idc t.id).length = 20 := by rw [idc_length, ht.1]
  have h2 : (idc t.ag).length = 20 := by rw [idc_length, ht.2]
  have r1 := rangeAt_right h h1
  have r2 := rangeAt_right r1 h2
  exact ⟨rangeAt_left h, rangeAt_left r1, rangeAt_head r2, rangeAt_head (rangeAt_tail r2), rangeAt_head (rangeAt_tail (rangeAt_tail r2))⟩

theorem i3 : (Trym.prog.info? 3).map (·.size) = some 1 := by kernel_rfl
theorem i4 : (Trym.prog.info? 4).map (·.size) = some 1 := by kernel_rfl

set_option maxHeartbeats 4000000 in
theorem treesIn_some (b off n cap : Nat) (ts : Nat → Tr) (w : World) (hn : n ≤ 100000000) (hl : ∀ i, i < n → (ts i).ok) (hrow : WRow w b off n 43 (fun i => trc (ts i))) :
    Calls Trym.prog 35 #[.slice (some ⟨b, off, none⟩) n cap] w fun e w' => e = .returned (.slice (some ⟨w.heap.size, 0, none⟩) n n) ∧ WB w' w.heap.size 91 (n * 43) ∧ WRow w' w.heap.size 0 n 43 (fun i => trc (ts i)) ∧ Below w.heap.size w w' := by
  have hnil := fun W : World => Lib.run_eql_slice_nil (P := Trym.prog) W 49 60 (some ⟨b, off, none⟩) n cap 0 0 Trym.underlying49
  obtain ⟨C, hC, hmk⟩ := make_wide Trym.underlying84 f91 (by omega) n (by omega)
  have HR := hide (And.intro hrow (And.intro hl hC))
  clear hrow hl hC
  go_enter Trym.func35, Trym.ntmps35
  go_wp2
  clear hnil hmk
  go_loopw [4] (fun i wr => ∃ k : Nat, k ≤ n ∧ i = .int .i64 k ∧ WB wr w.heap.size 91 (n * 43) ∧ WRow wr w.heap.size 0 k 43 (fun i => trc (ts i)) ∧ Below w.heap.size w wr) (fun i _ => n - (intOf i).toNat)
  case atStart => exact ⟨0, Nat.zero_le _, rfl, WB_new _ _ _ HR.out.2.2, fun i hi => absurd hi (by omega), (Below.refl _ _).alloc (Nat.le_refl _) _⟩
  case round =>
    obtain ⟨k, hk, rfl, hwb, hout, hbel⟩ := hrel
    by_cases hlt : k < n
    · have hra := HR.out.1 k hlt
      have hok := HR.out.2.1 k hlt
      have hbw : b < w.heap.size := rangeAt_lt hra (by rw [trc_length hok]; omega)
      have hra1 := rangeAt_below hbel hbw hra
      have hwbd : WB wr.drew w.heap.size 91 (n * 43) := hwb
      have hth : wr.drew.there w.heap.size (0 + k * 43) (trc (ts k)).toArray.size := hwbd.there (by rw [List.size_toArray, trc_length hok]; omega)
      have hnx := WRow.snoc (w := wr.drew) (f := fun i => trc (ts i)) hout hwbd (by omega) (fun i hi => trc_length (HR.out.2.1 i (by omega)))
      have hwb2 := hwbd.setCells (0 + k * 43) (trc (ts k))
      have hbel2 := below_setCells (Nat.le_refl w.heap.size) (trc (ts k)) (0 + k * 43) wr.drew hbel.drew
      rw [Nat.zero_add] at hnx hwb2 hbel2
      have HN := hide (And.intro hnx (And.intro hwb2 hbel2))
      have HT := hide hth
      clear hra hnx hwb2 hbel2 hwb hout hbel hth hwbd
      go_upto_region 7 with fail
      refine wp_region_lex (fun w' => w'.rangeAt b (off + k * 43) (trc (ts k))) (by kernel_rfl) (by kernel_rfl) ((World.rangeAt_drew _ _ _ _).2 hra1) ?_
      refine lex_mv (.slice (some ⟨w.heap.size, 0, none⟩) n n) _ rfl rfl rfl ?_
      simp only [Act.put, List.setIfInBounds_toArray, List.set_cons_zero, List.set_cons_succ]
      refine lex_mv (.int .i64 (k : Int)) _ rfl rfl rfl ?_
      simp only [Act.put, List.setIfInBounds_toArray, List.set_cons_zero, List.set_cons_succ]
      refine lex_mv (.slice (some ⟨b, off, none⟩) n cap) _ rfl rfl rfl ?_
      simp only [Act.put, List.setIfInBounds_toArray, List.set_cons_zero, List.set_cons_succ]
      refine lex_mv (.int .i64 (k : Int)) _ rfl rfl rfl ?_
      simp only [Act.put, List.setIfInBounds_toArray, List.set_cons_zero, List.set_cons_succ]
      refine lex_index 49 60 _ _ b off n cap k 43 rfl rfl rfl rfl hlt Trym.underlying49 i60 ?_
      simp only [Act.put, List.setIfInBounds_toArray, List.set_cons_zero, List.set_cons_succ]
      refine lex_field 60 _ 0 b (off + k * 43) 0 _ _ rfl rfl rfl Trym.underlying60 rfl i34 rfl ?_
      simp only [Act.put, List.setIfInBounds_toArray, List.set_cons_zero, List.set_cons_succ]
      refine lex_load 34 _ b (off + k * 43 + 0) (idc (ts k).id) _ rfl rfl rfl (fun _ h => (trc_range h hok).1) Trym.underlying34 rfl (by rw [i34, idc_length, hok.1]) ?_
      simp only [Act.put, List.setIfInBounds_toArray, List.set_cons_zero, List.set_cons_succ]
      refine lex_mv (.slice (some ⟨b, off, none⟩) n cap) _ rfl rfl rfl ?_
      simp only [Act.put, List.setIfInBounds_toArray, List.set_cons_zero, List.set_cons_succ]
      refine lex_mv (.int .i64 (k : Int)) _ rfl rfl rfl ?_
      simp only [Act.put, List.setIfInBounds_toArray, List.set_cons_zero, List.set_cons_succ]
      refine lex_index 49 60 _ _ b off n cap k 43 rfl rfl rfl rfl hlt Trym.underlying49 i60 ?_
      simp only [Act.put, List.setIfInBounds_toArray, List.set_cons_zero, List.set_cons_succ]
      refine lex_field 60 _ 1 b (off + k * 43) 20 _ _ rfl rfl rfl Trym.underlying60 rfl i34 rfl ?_
      simp only [Act.put, List.setIfInBounds_toArray, List.set_cons_zero, List.set_cons_succ]
      refine lex_load 34 _ b (off + k * 43 + 20) (idc (ts k).ag) _ rfl rfl rfl (fun _ h => (trc_range h hok).2.1) Trym.underlying34 rfl (by rw [i34, idc_length, hok.2]) ?_
      simp only [Act.put, List.setIfInBounds_toArray, List.set_cons_zero, List.set_cons_succ]
      refine lex_mv (.slice (some ⟨b, off, none⟩) n cap) _ rfl rfl rfl ?_
      simp only [Act.put, List.setIfInBounds_toArray, List.set_cons_zero, List.set_cons_succ]
      refine lex_mv (.int .i64 (k : Int)) _ rfl rfl rfl ?_
      simp only [Act.put, List.setIfInBounds_toArray, List.set_cons_zero, List.set_cons_succ]
      refine lex_index 49 60 _ _ b off n cap k 43 rfl rfl rfl rfl hlt Trym.underlying49 i60 ?_
      simp only [Act.put, List.setIfInBounds_toArray, List.set_cons_zero, List.set_cons_succ]
      refine lex_field 60 _ 2 b (off + k * 43) 40 _ _ rfl rfl rfl Trym.underlying60 rfl i3 rfl ?_
      simp only [Act.put, List.setIfInBounds_toArray, List.set_cons_zero, List.set_cons_succ]
      refine lex_load1 3 _ b (off + k * 43 + 40) (.int .i64 (ts k).fo) rfl rfl rfl (fun _ h => (trc_range h hok).2.2.1) (fun w => Trym.isAgg3 w) ?_
      simp only [Act.put, List.setIfInBounds_toArray, List.set_cons_zero, List.set_cons_succ]
      refine lex_mv (.slice (some ⟨b, off, none⟩) n cap) _ rfl rfl rfl ?_
      simp only [Act.put, List.setIfInBounds_toArray, List.set_cons_zero, List.set_cons_succ]
      refine lex_mv (.int .i64 (k : Int)) _ rfl rfl rfl ?_
      simp only [Act.put, List.setIfInBounds_toArray, List.set_cons_zero, List.set_cons_succ]
      refine lex_index 49 60 _ _ b off n cap k 43 rfl rfl rfl rfl hlt Trym.underlying49 i60 ?_
      simp only [Act.put, List.setIfInBounds_toArray, List.set_cons_zero, List.set_cons_succ]
      refine lex_field 60 _ 3 b (off + k * 43) 41 _ _ rfl rfl rfl Trym.underlying60 rfl i3 rfl ?_
      simp only [Act.put, List.setIfInBounds_toArray, List.set_cons_zero, List.set_cons_succ]
      refine lex_load1 3 _ b (off + k * 43 + 41) (.int .i64 (ts k).de) rfl rfl rfl (fun _ h => (trc_range h hok).2.2.2.1) (fun w => Trym.isAgg3 w) ?_
      simp only [Act.put, List.setIfInBounds_toArray, List.set_cons_zero, List.set_cons_succ]
      refine lex_mv (.slice (some ⟨b, off, none⟩) n cap) _ rfl rfl rfl ?_
      simp only [Act.put, List.setIfInBounds_toArray, List.set_cons_zero, List.set_cons_succ]
      refine lex_mv (.int .i64 (k : Int)) _ rfl rfl rfl ?_
      simp only [Act.put, List.setIfInBounds_toArray, List.set_cons_zero, List.set_cons_succ]
      refine lex_index 49 60 _ _ b off n cap k 43 rfl rfl rfl rfl hlt Trym.underlying49 i60 ?_
      simp only [Act.put, List.setIfInBounds_toArray, List.set_cons_zero, List.set_cons_succ]
      refine lex_field 60 _ 4 b (off + k * 43) 42 _ _ rfl rfl rfl Trym.underlying60 rfl i4 rfl ?_
      simp only [Act.put, List.setIfInBounds_toArray, List.set_cons_zero, List.set_cons_succ]
      refine lex_load1 4 _ b (off + k * 43 + 42) (.bool (ts k).wa) rfl rfl rfl (fun _ h => (trc_range h hok).2.2.2.2) (fun w => Trym.isAgg4 w) ?_
      simp only [Act.put, List.setIfInBounds_toArray, List.set_cons_zero, List.set_cons_succ]
      refine lex_build 91 _ #[(0, .agg (idc (ts k).id).toArray), (1, .agg (idc (ts k).ag).toArray), (2, .int .i64 (ts k).fo), (3, .int .i64 (ts k).de), (4, .bool (ts k).wa)] (.agg (trc (ts k)).toArray) rfl rfl rfl (build91 hok) ?_
      simp only [Act.put, List.setIfInBounds_toArray, List.set_cons_zero, List.set_cons_succ]
      refine lex_index 84 91 _ _ w.heap.size 0 n n k 43 rfl rfl rfl rfl hlt Trym.underlying84 i91 ?_
      simp only [Act.put, List.setIfInBounds_toArray, List.set_cons_zero, List.set_cons_succ]
      refine lex_store 91 _ _ w.heap.size (0 + k * 43) (trc (ts k)).toArray (by kernel_rfl) rfl rfl rfl rfl HT.out (by rw [i91, List.size_toArray, trc_length hok]) (all_oneCell_toArray (trc_one _)) (World.rangeAt_setCells_apart ((World.rangeAt_drew _ _ _ _).2 hra1) _ _ _ (.inl (by omega))) ?_
      simp only [Act.put, List.setIfInBounds_toArray, List.set_cons_zero, List.set_cons_succ]
      refine lex_nil (NoPanic.normal ?_)
      clear hra1 HT hok hbw
      go_wp2
      go_roundw
      case rel => exact ⟨k + 1, by omega, by go_num, HN.out.2.1, HN.out.1, HN.out.2.2⟩
      case measure => simp [intOf]; omega
    · have : k = n := by omega
      subst this
      have HB := hide (And.intro hwb (And.intro hout hbel))
      clear hwb hout hbel
      go_wp2
      go_ret
      exact ⟨rfl, HB.out.1, HB.out.2.1, HB.out.2.2⟩

theorem treesIn_nil (w : World) : Calls Trym.prog 35 #[.slice none 0 0] w fun er w' => er = .returned (.slice none 0 0) ∧ w' = w := by
  have hnil := fun W : World => Lib.run_eql_slice_nil (P := Trym.prog) W 49 60 none 0 0 0 0 Trym.underlying49
  go_enter Trym.func35, Trym.ntmps35
  go_wp2
  go_ret
  exact ⟨rfl, rfl⟩

set_option maxHeartbeats 4000000 in
theorem treesOut_some (b off n cap : Nat) (ts : Nat → Tr) (w : World) (hn : n ≤ 100000000) (hl : ∀ i, i < n → (ts i).ok) (hrow : WRow w b off n 43 (fun i => trc (ts i))) :
    Calls Trym.prog 36 #[.slice (some ⟨b, off, none⟩) n cap] w fun e w' => e = .returned (.slice (some ⟨w.heap.size, 0, none⟩) n n) ∧ WB w' w.heap.size 60 (n * 43) ∧ WRow w' w.heap.size 0 n 43 (fun i => trc (ts i)) ∧ Below w.heap.size w w' := by
  have hnil := fun W : World => Lib.run_eql_slice_nil (P := Trym.prog) W 84 91 (some ⟨b, off, none⟩) n cap 0 0 Trym.underlying84
  obtain ⟨C, hC, hmk⟩ := make_wide Trym.underlying49 f60 (by omega) n (by omega)
  have HR := hide (And.intro hrow (And.intro hl hC))
  clear hrow hl hC
  go_enter Trym.func36, Trym.ntmps36
  go_wp2
  clear hnil hmk
  go_loopw [4] (fun i wr => ∃ k : Nat, k ≤ n ∧ i = .int .i64 k ∧ WB wr w.heap.size 60 (n * 43) ∧ WRow wr w.heap.size 0 k 43 (fun i => trc (ts i)) ∧ Below w.heap.size w wr) (fun i _ => n - (intOf i).toNat)
  case atStart => exact ⟨0, Nat.zero_le _, rfl, WB_new _ _ _ HR.out.2.2, fun i hi => absurd hi (by omega), (Below.refl _ _).alloc (Nat.le_refl _) _⟩
  case round =>
    obtain ⟨k, hk, rfl, hwb, hout, hbel⟩ := hrel
    by_cases hlt : k < n
    · have hra := HR.out.1 k hlt
      have hok := HR.out.2.1 k hlt
      have hbw : b < w.heap.size := rangeAt_lt hra (by rw [trc_length hok]; omega)
      have hra1 := rangeAt_below hbel hbw hra
      have hwbd : WB wr.drew w.heap.size 60 (n * 43) := hwb
      have hth : wr.drew.there w.heap.size (0 + k * 43) (trc (ts k)).toArray.size := hwbd.there (by rw [List.size_toArray, trc_length hok]; omega)
      have hnx := WRow.snoc (w := wr.drew) (f := fun i => trc (ts i)) hout hwbd (by omega) (fun i hi => trc_length (HR.out.2.1 i (by omega)))
      have hwb2 := hwbd.setCells (0 + k * 43) (trc (ts k))
      have hbel2 := below_setCells (Nat.le_refl w.heap.size) (trc (ts k)) (0 + k * 43) wr.drew hbel.drew
      rw [Nat.zero_add] at hnx hwb2 hbel2
      have HN := hide (And.intro hnx (And.intro hwb2 hbel2))
      have HT := hide hth
      clear hra hnx hwb2 hbel2 hwb hout hbel hth hwbd
      go_upto_region 7 with fail
      refine wp_region_lex (fun w' => w'.rangeAt b (off + k * 43) (trc (ts k))) (by kernel_rfl) (by kernel_rfl) ((World.rangeAt_drew _ _ _ _).2 hra1) ?_
      refine lex_mv (.slice (some ⟨w.heap.size, 0, none⟩) n n) _ rfl rfl rfl ?_
      simp only [Act.put, List.setIfInBounds_toArray, List.set_cons_zero, List.set_cons_succ]
      refine lex_mv (.int .i64 (k : Int)) _ rfl rfl rfl ?_
      simp only [Act.put, List.setIfInBounds_toArray, List.set_cons_zero, List.set_cons_succ]
      refine lex_mv (.slice (some ⟨b, off, none⟩) n cap) _ rfl rfl rfl ?_
      simp only [Act.put, List.setIfInBounds_toArray, List.set_cons_zero, List.set_cons_succ]
      refine lex_mv (.int .i64 (k : Int)) _ rfl rfl rfl ?_
      simp only [Act.put, List.setIfInBounds_toArray, List.set_cons_zero, List.set_cons_succ]
      refine lex_index 84 91 _ _ b off n cap k 43 rfl rfl rfl rfl hlt Trym.underlying84 i91 ?_
      simp only [Act.put, List.setIfInBounds_toArray, List.set_cons_zero, List.set_cons_succ]
      refine lex_field 91 _ 0 b (off + k * 43) 0 _ _ rfl rfl rfl Trym.underlying91 rfl i70 rfl ?_
      simp only [Act.put, List.setIfInBounds_toArray, List.set_cons_zero, List.set_cons_succ]
      refine lex_load 70 _ b (off + k * 43 + 0) (idc (ts k).id) _ rfl rfl rfl (fun _ h => (trc_range h hok).1) Trym.underlying70 rfl (by rw [i70, idc_length, hok.1]) ?_
      simp only [Act.put, List.setIfInBounds_toArray, List.set_cons_zero, List.set_cons_succ]
      refine lex_mv (.slice (some ⟨b, off, none⟩) n cap) _ rfl rfl rfl ?_
      simp only [Act.put, List.setIfInBounds_toArray, List.set_cons_zero, List.set_cons_succ]
      refine lex_mv (.int .i64 (k : Int)) _ rfl rfl rfl ?_
      simp only [Act.put, List.setIfInBounds_toArray, List.set_cons_zero, List.set_cons_succ]
      refine lex_index 84 91 _ _ b off n cap k 43 rfl rfl rfl rfl hlt Trym.underlying84 i91 ?_
      simp only [Act.put, List.setIfInBounds_toArray, List.set_cons_zero, List.set_cons_succ]
      refine lex_field 91 _ 1 b (off + k * 43) 20 _ _ rfl rfl rfl Trym.underlying91 rfl i70 rfl ?_
      simp only [Act.put, List.setIfInBounds_toArray, List.set_cons_zero, List.set_cons_succ]
      refine lex_load 70 _ b (off + k * 43 + 20) (idc (ts k).ag) _ rfl rfl rfl (fun _ h => (trc_range h hok).2.1) Trym.underlying70 rfl (by rw [i70, idc_length, hok.2]) ?_
      simp only [Act.put, List.setIfInBounds_toArray, List.set_cons_zero, List.set_cons_succ]
      refine lex_mv (.slice (some ⟨b, off, none⟩) n cap) _ rfl rfl rfl ?_
      simp only [Act.put, List.setIfInBounds_toArray, List.set_cons_zero, List.set_cons_succ]
      refine lex_mv (.int .i64 (k : Int)) _ rfl rfl rfl ?_
      simp only [Act.put, List.setIfInBounds_toArray, List.set_cons_zero, List.set_cons_succ]
      refine lex_index 84 91 _ _ b off n cap k 43 rfl rfl rfl rfl hlt Trym.underlying84 i91 ?_
      simp only [Act.put, List.setIfInBounds_toArray, List.set_cons_zero, List.set_cons_succ]
      refine lex_field 91 _ 2 b (off + k * 43) 40 _ _ rfl rfl rfl Trym.underlying91 rfl i3 rfl ?_
      simp only [Act.put, List.setIfInBounds_toArray, List.set_cons_zero, List.set_cons_succ]
      refine lex_load1 3 _ b (off + k * 43 + 40) (.int .i64 (ts k).fo) rfl rfl rfl (fun _ h => (trc_range h hok).2.2.1) (fun w => Trym.isAgg3 w) ?_
      simp only [Act.put, List.setIfInBounds_toArray, List.set_cons_zero, List.set_cons_succ]
      refine lex_mv (.slice (some ⟨b, off, none⟩) n cap) _ rfl rfl rfl ?_
      simp only [Act.put, List.setIfInBounds_toArray, List.set_cons_zero, List.set_cons_succ]
      refine lex_mv (.int .i64 (k : Int)) _ rfl rfl rfl ?_
      simp only [Act.put, List.setIfInBounds_toArray, List.set_cons_zero, List.set_cons_succ]
      refine lex_index 84 91 _ _ b off n cap k 43 rfl rfl rfl rfl hlt Trym.underlying84 i91 ?_
      simp only [Act.put, List.setIfInBounds_toArray, List.set_cons_zero, List.set_cons_succ]
      refine lex_field 91 _ 3 b (off + k * 43) 41 _ _ rfl rfl rfl Trym.underlying91 rfl i3 rfl ?_
      simp only [Act.put, List.setIfInBounds_toArray, List.set_cons_zero, List.set_cons_succ]
      refine lex_load1 3 _ b (off + k * 43 + 41) (.int .i64 (ts k).de) rfl rfl rfl (fun _ h => (trc_range h hok).2.2.2.1) (fun w => Trym.isAgg3 w) ?_
      simp only [Act.put, List.setIfInBounds_toArray, List.set_cons_zero, List.set_cons_succ]
      refine lex_mv (.slice (some ⟨b, off, none⟩) n cap) _ rfl rfl rfl ?_
      simp only [Act.put, List.setIfInBounds_toArray, List.set_cons_zero, List.set_cons_succ]
      refine lex_mv (.int .i64 (k : Int)) _ rfl rfl rfl ?_
      simp only [Act.put, List.setIfInBounds_toArray, List.set_cons_zero, List.set_cons_succ]
      refine lex_index 84 91 _ _ b off n cap k 43 rfl rfl rfl rfl hlt Trym.underlying84 i91 ?_
      simp only [Act.put, List.setIfInBounds_toArray, List.set_cons_zero, List.set_cons_succ]
      refine lex_field 91 _ 4 b (off + k * 43) 42 _ _ rfl rfl rfl Trym.underlying91 rfl i4 rfl ?_
      simp only [Act.put, List.setIfInBounds_toArray, List.set_cons_zero, List.set_cons_succ]
      refine lex_load1 4 _ b (off + k * 43 + 42) (.bool (ts k).wa) rfl rfl rfl (fun _ h => (trc_range h hok).2.2.2.2) (fun w => Trym.isAgg4 w) ?_
      simp only [Act.put, List.setIfInBounds_toArray, List.set_cons_zero, List.set_cons_succ]
      refine lex_build 60 _ #[(0, .agg (idc (ts k).id).toArray), (1, .agg (idc (ts k).ag).toArray), (2, .int .i64 (ts k).fo), (3, .int .i64 (ts k).de), (4, .bool (ts k).wa)] (.agg (trc (ts k)).toArray) rfl rfl rfl (build60 hok) ?_
      simp only [Act.put, List.setIfInBounds_toArray, List.set_cons_zero, List.set_cons_succ]
      refine lex_index 49 60 _ _ w.heap.size 0 n n k 43 rfl rfl rfl rfl hlt Trym.underlying49 i60 ?_
      simp only [Act.put, List.setIfInBounds_toArray, List.set_cons_zero, List.set_cons_succ]
      refine lex_store 60 _ _ w.heap.size (0 + k * 43) (trc (ts k)).toArray (by kernel_rfl) rfl rfl rfl rfl HT.out (by rw [i60, List.size_toArray, trc_length hok]) (all_oneCell_toArray (trc_one _)) (World.rangeAt_setCells_apart ((World.rangeAt_drew _ _ _ _).2 hra1) _ _ _ (.inl (by omega))) ?_
      simp only [Act.put, List.setIfInBounds_toArray, List.set_cons_zero, List.set_cons_succ]
      refine lex_nil (NoPanic.normal ?_)
      clear hra1 HT hok hbw
      go_wp2
      go_roundw
      case rel => exact ⟨k + 1, by omega, by go_num, HN.out.2.1, HN.out.1, HN.out.2.2⟩
      case measure => simp [intOf]; omega
    · have : k = n := by omega
      subst this
      have HB := hide (And.intro hwb (And.intro hout hbel))
      clear hwb hout hbel
      go_wp2
      go_ret
      exact ⟨rfl, HB.out.1, HB.out.2.1, HB.out.2.2⟩

theorem treesOut_nil (w : World) : Calls Trym.prog 36 #[.slice none 0 0] w fun er w' => er = .returned (.slice none 0 0) ∧ w' = w := by
  have hnil := fun W : World => Lib.run_eql_slice_nil (P := Trym.prog) W 84 91 none 0 0 0 0 Trym.underlying84
  go_enter Trym.func36, Trym.ntmps36
  go_wp2
  go_ret
  exact ⟨rfl, rfl⟩

end Go.Proofs.Qxb6601415aMods
