import Derived.Test.Qxb6601415aModsO
namespace Go.Proofs.Qxb6601415aMods
open Go.RowKit Go.Extern.Stop
set_option linter.unusedVariables false
set_option linter.unusedSimpArgs false
set_option maxRecDepth 20000

set_option maxHeartbeats 2000000 in
theorem cloneWaits_some (b off n cap : Nat) (f : Nat → List Value) (w : World) (hn : n ≤ 4096) (hl : ∀ i, i < n → (f i).length = 21) (h1 : ∀ i, i < n → ∀ v ∈ f i, v.oneCell' = true) (hrow : WRow w b off n 21 f) :
    Calls Trym.prog 21 #[.slice (some ⟨b, off, none⟩) n cap] w fun e w' => e = .returned (.slice (some ⟨w.heap.size, 0, none⟩) n n) ∧ WB w' w.heap.size 77 (n * 21) ∧ WRow w' w.heap.size 0 n 21 f ∧ Below w.heap.size w w' := by
  have hnil := fun W : World => Lib.run_eql_slice_nil (P := Trym.prog) W 40 77 (some ⟨b, off, none⟩) n cap 0 0 Trym.underlying40
  obtain ⟨C, hC, hmk⟩ := make_wide Trym.underlying40 f77 (by omega) n (by omega)
  have HR := hide (And.intro hrow (And.intro hl (And.intro h1 hC)))
  clear hrow hl h1 hC
  go_enter Trym.func21, Trym.ntmps21
  go_wp2
  clear hnil hmk
  go_loopw [4] (fun i wr => ∃ k : Nat, k ≤ n ∧ i = .int .i64 k ∧ WB wr w.heap.size 77 (n * 21) ∧ WRow wr w.heap.size 0 k 21 f ∧ Below w.heap.size w wr) (fun i _ => n - (intOf i).toNat)
  case atStart => exact ⟨0, Nat.zero_le _, rfl, WB_new _ _ _ HR.out.2.2.2, fun i hi => absurd hi (by omega), (Below.refl _ _).alloc (Nat.le_refl _) _⟩
  case round =>
    obtain ⟨k, hk, rfl, hwb, hout, hbel⟩ := hrel
    by_cases hlt : k < n
    · have hra := HR.out.1 k hlt
      have hlk := HR.out.2.1 k hlt
      have hbw : b < w.heap.size := rangeAt_lt hra (by rw [hlk]; omega)
      have hra1 := rangeAt_below hbel hbw hra
      have hth : wr.there w.heap.size (0 + k * 21) (f k).toArray.size := hwb.there (by rw [List.size_toArray, hlk]; omega)
      have hnx := hout.snoc hwb (by omega) (fun i hi => HR.out.2.1 i (by omega))
      have hwb2 := hwb.setCells (0 + k * 21) (f k)
      have hbel2 := below_setCells (Nat.le_refl w.heap.size) (f k) (0 + k * 21) wr hbel
      rw [Nat.zero_add] at hnx hwb2 hbel2
      have HN := hide (And.intro hnx (And.intro hwb2 hbel2))
      have HT := hide hth
      clear hra hnx hwb2 hbel2 hwb hout hbel hth
      go_upto_region 7 with fail
      refine wp_region_lexp (fun w' => w'.rangeAt b (off + k * 21) (f k)) hra1 ?_
      refine lex_mv (.slice (some ⟨w.heap.size, 0, none⟩) n n) _ rfl rfl rfl ?_
      simp only [Act.put, List.setIfInBounds_toArray, List.set_cons_zero, List.set_cons_succ]
      refine lex_mv (.int .i64 (k : Int)) _ rfl rfl rfl ?_
      simp only [Act.put, List.setIfInBounds_toArray, List.set_cons_zero, List.set_cons_succ]
      refine lex_mv (.slice (some ⟨b, off, none⟩) n cap) _ rfl rfl rfl ?_
      simp only [Act.put, List.setIfInBounds_toArray, List.set_cons_zero, List.set_cons_succ]
      refine lex_mv (.int .i64 (k : Int)) _ rfl rfl rfl ?_
      simp only [Act.put, List.setIfInBounds_toArray, List.set_cons_zero, List.set_cons_succ]
      refine lex_index 40 77 _ _ b off n cap k 21 rfl rfl rfl rfl hlt Trym.underlying40 i77 ?_
      simp only [Act.put, List.setIfInBounds_toArray, List.set_cons_zero, List.set_cons_succ]
      refine lex_load 77 _ b (off + k * 21) (f k) _ rfl rfl rfl (fun _ h => h) Trym.underlying77 rfl (by rw [i77, hlk]) ?_
      simp only [Act.put, List.setIfInBounds_toArray, List.set_cons_zero, List.set_cons_succ]
      refine lex_index 40 77 _ _ w.heap.size 0 n n k 21 rfl rfl rfl rfl hlt Trym.underlying40 i77 ?_
      simp only [Act.put, List.setIfInBounds_toArray, List.set_cons_zero, List.set_cons_succ]
      refine lex_store 77 _ _ w.heap.size (0 + k * 21) (f k).toArray rfl rfl rfl rfl rfl HT.out (by rw [i77, List.size_toArray, hlk]) (all_oneCell_toArray (HR.out.2.2.1 k hlt)) (World.rangeAt_setCells_apart hra1 _ _ _ (.inl (by omega))) ?_
      simp only [Act.put, List.setIfInBounds_toArray, List.set_cons_zero, List.set_cons_succ]
      refine lex_nil (NoPanic.normal ?_)
      clear hra1 HT hlk hbw
      go_wp2
      go_roundw
      case rel => exact ⟨k + 1, by omega, by go_num, HN.out.2.1, HN.out.1, HN.out.2.2⟩
      case measure => simp [intOf]; omega
    · have : k = n := by omega
      subst this
      have HB := hide (And.intro hwb (And.intro hout hbel))
      clear hwb hout hbel
      go_wp2
      go_ret
      exact ⟨rfl, HB.out.1, HB.out.2.1, HB.out.2.2⟩

theorem cloneWaits_nil (w : World) : Calls Trym.prog 21 #[.slice none 0 0] w fun er w' => er = .returned (.slice none 0 0) ∧ w' = w := by
  have hnil := fun W : World => Lib.run_eql_slice_nil (P := Trym.prog) W 40 77 none 0 0 0 0 Trym.underlying40
  go_enter Trym.func21, Trym.ntmps21
  go_wp2
  go_ret
  exact ⟨rfl, rfl⟩

set_option maxHeartbeats 2000000 in
theorem cloneTrees_some (b off n cap : Nat) (f : Nat → List Value) (w : World) (hn : n ≤ 4096) (hl : ∀ i, i < n → (f i).length = 43) (h1 : ∀ i, i < n → ∀ v ∈ f i, v.oneCell' = true) (hrow : WRow w b off n 43 f) :
    Calls Trym.prog 34 #[.slice (some ⟨b, off, none⟩) n cap] w fun e w' => e = .returned (.slice (some ⟨w.heap.size, 0, none⟩) n n) ∧ WB w' w.heap.size 60 (n * 43) ∧ WRow w' w.heap.size 0 n 43 f ∧ Below w.heap.size w w' := by
  have hnil := fun W : World => Lib.run_eql_slice_nil (P := Trym.prog) W 49 60 (some ⟨b, off, none⟩) n cap 0 0 Trym.underlying49
  obtain ⟨C, hC, hmk⟩ := make_wide Trym.underlying49 f60 (by omega) n (by omega)
  have HR := hide (And.intro hrow (And.intro hl (And.intro h1 hC)))
  clear hrow hl h1 hC
  go_enter Trym.func34, Trym.ntmps34
  go_wp2
  clear hnil hmk
  go_loopw [4] (fun i wr => ∃ k : Nat, k ≤ n ∧ i = .int .i64 k ∧ WB wr w.heap.size 60 (n * 43) ∧ WRow wr w.heap.size 0 k 43 f ∧ Below w.heap.size w wr) (fun i _ => n - (intOf i).toNat)
  case atStart => exact ⟨0, Nat.zero_le _, rfl, WB_new _ _ _ HR.out.2.2.2, fun i hi => absurd hi (by omega), (Below.refl _ _).alloc (Nat.le_refl _) _⟩
  case round =>
    obtain ⟨k, hk, rfl, hwb, hout, hbel⟩ := hrel
    by_cases hlt : k < n
    · have hra := HR.out.1 k hlt
      have hlk := HR.out.2.1 k hlt
      have hbw : b < w.heap.size := rangeAt_lt hra (by rw [hlk]; omega)
      have hra1 := rangeAt_below hbel hbw hra
      have hth : wr.there w.heap.size (0 + k * 43) (f k).toArray.size := hwb.there (by rw [List.size_toArray, hlk]; omega)
      have hnx := hout.snoc hwb (by omega) (fun i hi => HR.out.2.1 i (by omega))
      have hwb2 := hwb.setCells (0 + k * 43) (f k)
      have hbel2 := below_setCells (Nat.le_refl w.heap.size) (f k) (0 + k * 43) wr hbel
      rw [Nat.zero_add] at hnx hwb2 hbel2
      have HN := hide (And.intro hnx (And.intro hwb2 hbel2))
      have HT := hide hth
      clear hra hnx hwb2 hbel2 hwb hout hbel hth
      go_upto_region 7 with fail
      refine wp_region_lexp (fun w' => w'.rangeAt b (off + k * 43) (f k)) hra1 ?_
      refine lex_mv (.slice (some ⟨w.heap.size, 0, none⟩) n n) _ rfl rfl rfl ?_
      simp only [Act.put, List.setIfInBounds_toArray, List.set_cons_zero, List.set_cons_succ]
      refine lex_mv (.int .i64 (k : Int)) _ rfl rfl rfl ?_
      simp only [Act.put, List.setIfInBounds_toArray, List.set_cons_zero, List.set_cons_succ]
      refine lex_mv (.slice (some ⟨b, off, none⟩) n cap) _ rfl rfl rfl ?_
      simp only [Act.put, List.setIfInBounds_toArray, List.set_cons_zero, List.set_cons_succ]
      refine lex_mv (.int .i64 (k : Int)) _ rfl rfl rfl ?_
      simp only [Act.put, List.setIfInBounds_toArray, List.set_cons_zero, List.set_cons_succ]
      refine lex_index 49 60 _ _ b off n cap k 43 rfl rfl rfl rfl hlt Trym.underlying49 i60 ?_
      simp only [Act.put, List.setIfInBounds_toArray, List.set_cons_zero, List.set_cons_succ]
      refine lex_load 60 _ b (off + k * 43) (f k) _ rfl rfl rfl (fun _ h => h) Trym.underlying60 rfl (by rw [i60, hlk]) ?_
      simp only [Act.put, List.setIfInBounds_toArray, List.set_cons_zero, List.set_cons_succ]
      refine lex_index 49 60 _ _ w.heap.size 0 n n k 43 rfl rfl rfl rfl hlt Trym.underlying49 i60 ?_
      simp only [Act.put, List.setIfInBounds_toArray, List.set_cons_zero, List.set_cons_succ]
      refine lex_store 60 _ _ w.heap.size (0 + k * 43) (f k).toArray rfl rfl rfl rfl rfl HT.out (by rw [i60, List.size_toArray, hlk]) (all_oneCell_toArray (HR.out.2.2.1 k hlt)) (World.rangeAt_setCells_apart hra1 _ _ _ (.inl (by omega))) ?_
      simp only [Act.put, List.setIfInBounds_toArray, List.set_cons_zero, List.set_cons_succ]
      refine lex_nil (NoPanic.normal ?_)
      clear hra1 HT hlk hbw
      go_wp2
      go_roundw
      case rel => exact ⟨k + 1, by omega, by go_num, HN.out.2.1, HN.out.1, HN.out.2.2⟩
      case measure => simp [intOf]; omega
    · have : k = n := by omega
      subst this
      have HB := hide (And.intro hwb (And.intro hout hbel))
      clear hwb hout hbel
      go_wp2
      go_ret
      exact ⟨rfl, HB.out.1, HB.out.2.1, HB.out.2.2⟩

theorem cloneTrees_nil (w : World) : Calls Trym.prog 34 #[.slice none 0 0] w fun er w' => er = .returned (.slice none 0 0) ∧ w' = w := by
  have hnil := fun W : World => Lib.run_eql_slice_nil (P := Trym.prog) W 49 60 none 0 0 0 0 Trym.underlying49
  go_enter Trym.func34, Trym.ntmps34
  go_wp2
  go_ret
  exact ⟨rfl, rfl⟩

set_option maxHeartbeats 2000000 in
theorem idsIn_some (b off n cap : Nat) (f : Nat → List Value) (w : World) (hn : n ≤ 4096) (hl : ∀ i, i < n → (f i).length = 20) (h1 : ∀ i, i < n → ∀ v ∈ f i, v.oneCell' = true) (hrow : WRow w b off n 20 f) :
    Calls Trym.prog 31 #[.slice (some ⟨b, off, none⟩) n cap] w fun e w' => e = .returned (.slice (some ⟨w.heap.size, 0, none⟩) n n) ∧ WB w' w.heap.size 70 (n * 20) ∧ WRow w' w.heap.size 0 n 20 f ∧ Below w.heap.size w w' := by
  have hnil := fun W : World => Lib.run_eql_slice_nil (P := Trym.prog) W 28 34 (some ⟨b, off, none⟩) n cap 0 0 Trym.underlying28
  obtain ⟨C, hC, hmk⟩ := make_wide Trym.underlying68 f70 (by omega) n (by omega)
  have HR := hide (And.intro hrow (And.intro hl (And.intro h1 hC)))
  clear hrow hl h1 hC
  go_enter Trym.func31, Trym.ntmps31
  go_wp2
  clear hnil hmk
  go_loopw [4] (fun i wr => ∃ k : Nat, k ≤ n ∧ i = .int .i64 k ∧ WB wr w.heap.size 70 (n * 20) ∧ WRow wr w.heap.size 0 k 20 f ∧ Below w.heap.size w wr) (fun i _ => n - (intOf i).toNat)
  case atStart => exact ⟨0, Nat.zero_le _, rfl, WB_new _ _ _ HR.out.2.2.2, fun i hi => absurd hi (by omega), (Below.refl _ _).alloc (Nat.le_refl _) _⟩
  case round =>
    obtain ⟨k, hk, rfl, hwb, hout, hbel⟩ := hrel
    by_cases hlt : k < n
    · have hra := HR.out.1 k hlt
      have hlk := HR.out.2.1 k hlt
      have hbw : b < w.heap.size := rangeAt_lt hra (by rw [hlk]; omega)
      have hra1 := rangeAt_below hbel hbw hra
      have hth : wr.there w.heap.size (0 + k * 20) (f k).toArray.size := hwb.there (by rw [List.size_toArray, hlk]; omega)
      have hnx := hout.snoc hwb (by omega) (fun i hi => HR.out.2.1 i (by omega))
      have hwb2 := hwb.setCells (0 + k * 20) (f k)
      have hbel2 := below_setCells (Nat.le_refl w.heap.size) (f k) (0 + k * 20) wr hbel
      rw [Nat.zero_add] at hnx hwb2 hbel2
      have HN := hide (And.intro hnx (And.intro hwb2 hbel2))
      have HT := hide hth
      clear hra hnx hwb2 hbel2 hwb hout hbel hth
      go_upto_region 7 with fail
      refine wp_region_lexp (fun w' => w'.rangeAt b (off + k * 20) (f k)) hra1 ?_
      refine lex_mv (.slice (some ⟨w.heap.size, 0, none⟩) n n) _ rfl rfl rfl ?_
      simp only [Act.put, List.setIfInBounds_toArray, List.set_cons_zero, List.set_cons_succ]
      refine lex_mv (.int .i64 (k : Int)) _ rfl rfl rfl ?_
      simp only [Act.put, List.setIfInBounds_toArray, List.set_cons_zero, List.set_cons_succ]
      refine lex_mv (.slice (some ⟨b, off, none⟩) n cap) _ rfl rfl rfl ?_
      simp only [Act.put, List.setIfInBounds_toArray, List.set_cons_zero, List.set_cons_succ]
      refine lex_mv (.int .i64 (k : Int)) _ rfl rfl rfl ?_
      simp only [Act.put, List.setIfInBounds_toArray, List.set_cons_zero, List.set_cons_succ]
      refine lex_index 28 34 _ _ b off n cap k 20 rfl rfl rfl rfl hlt Trym.underlying28 i34 ?_
      simp only [Act.put, List.setIfInBounds_toArray, List.set_cons_zero, List.set_cons_succ]
      refine lex_load 34 _ b (off + k * 20) (f k) _ rfl rfl rfl (fun _ h => h) Trym.underlying34 rfl (by rw [i34, hlk]) ?_
      simp only [Act.put, List.setIfInBounds_toArray, List.set_cons_zero, List.set_cons_succ]
      refine lex_index 68 70 _ _ w.heap.size 0 n n k 20 rfl rfl rfl rfl hlt Trym.underlying68 i70 ?_
      simp only [Act.put, List.setIfInBounds_toArray, List.set_cons_zero, List.set_cons_succ]
      refine lex_store 70 _ _ w.heap.size (0 + k * 20) (f k).toArray rfl rfl rfl rfl rfl HT.out (by rw [i70, List.size_toArray, hlk]) (all_oneCell_toArray (HR.out.2.2.1 k hlt)) (World.rangeAt_setCells_apart hra1 _ _ _ (.inl (by omega))) ?_
      simp only [Act.put, List.setIfInBounds_toArray, List.set_cons_zero, List.set_cons_succ]
      refine lex_nil (NoPanic.normal ?_)
      clear hra1 HT hlk hbw
      go_wp2
      go_roundw
      case rel => exact ⟨k + 1, by omega, by go_num, HN.out.2.1, HN.out.1, HN.out.2.2⟩
      case measure => simp [intOf]; omega
    · have : k = n := by omega
      subst this
      have HB := hide (And.intro hwb (And.intro hout hbel))
      clear hwb hout hbel
      go_wp2
      go_ret
      exact ⟨rfl, HB.out.1, HB.out.2.1, HB.out.2.2⟩

theorem idsIn_nil (w : World) : Calls Trym.prog 31 #[.slice none 0 0] w fun er w' => er = .returned (.slice none 0 0) ∧ w' = w := by
  have hnil := fun W : World => Lib.run_eql_slice_nil (P := Trym.prog) W 28 34 none 0 0 0 0 Trym.underlying28
  go_enter Trym.func31, Trym.ntmps31
  go_wp2
  go_ret
  exact ⟨rfl, rfl⟩

set_option maxHeartbeats 2000000 in
theorem idsOut_some (b off n cap : Nat) (f : Nat → List Value) (w : World) (hn : n ≤ 4096) (hl : ∀ i, i < n → (f i).length = 20) (h1 : ∀ i, i < n → ∀ v ∈ f i, v.oneCell' = true) (hrow : WRow w b off n 20 f) :
    Calls Trym.prog 33 #[.slice (some ⟨b, off, none⟩) n cap] w fun e w' => e = .returned (.slice (some ⟨w.heap.size, 0, none⟩) n n) ∧ WB w' w.heap.size 34 (n * 20) ∧ WRow w' w.heap.size 0 n 20 f ∧ Below w.heap.size w w' := by
  have hnil := fun W : World => Lib.run_eql_slice_nil (P := Trym.prog) W 68 70 (some ⟨b, off, none⟩) n cap 0 0 Trym.underlying68
  obtain ⟨C, hC, hmk⟩ := make_wide Trym.underlying28 f34 (by omega) n (by omega)
  have HR := hide (And.intro hrow (And.intro hl (And.intro h1 hC)))
  clear hrow hl h1 hC
  go_enter Trym.func33, Trym.ntmps33
  go_wp2
  clear hnil hmk
  go_loopw [4] (fun i wr => ∃ k : Nat, k ≤ n ∧ i = .int .i64 k ∧ WB wr w.heap.size 34 (n * 20) ∧ WRow wr w.heap.size 0 k 20 f ∧ Below w.heap.size w wr) (fun i _ => n - (intOf i).toNat)
  case atStart => exact ⟨0, Nat.zero_le _, rfl, WB_new _ _ _ HR.out.2.2.2, fun i hi => absurd hi (by omega), (Below.refl _ _).alloc (Nat.le_refl _) _⟩
  case round =>
    obtain ⟨k, hk, rfl, hwb, hout, hbel⟩ := hrel
    by_cases hlt : k < n
    · have hra := HR.out.1 k hlt
      have hlk := HR.out.2.1 k hlt
      have hbw : b < w.heap.size := rangeAt_lt hra (by rw [hlk]; omega)
      have hra1 := rangeAt_below hbel hbw hra
      have hth : wr.there w.heap.size (0 + k * 20) (f k).toArray.size := hwb.there (by rw [List.size_toArray, hlk]; omega)
      have hnx := hout.snoc hwb (by omega) (fun i hi => HR.out.2.1 i (by omega))
      have hwb2 := hwb.setCells (0 + k * 20) (f k)
      have hbel2 := below_setCells (Nat.le_refl w.heap.size) (f k) (0 + k * 20) wr hbel
      rw [Nat.zero_add] at hnx hwb2 hbel2
      have HN := hide (And.intro hnx (And.intro hwb2 hbel2))
      have HT := hide hth
      clear hra hnx hwb2 hbel2 hwb hout hbel hth
      go_upto_region 7 with fail
      refine wp_region_lexp (fun w' => w'.rangeAt b (off + k * 20) (f k)) hra1 ?_
      refine lex_mv (.slice (some ⟨w.heap.size, 0, none⟩) n n) _ rfl rfl rfl ?_
      simp only [Act.put, List.setIfInBounds_toArray, List.set_cons_zero, List.set_cons_succ]
      refine lex_mv (.int .i64 (k : Int)) _ rfl rfl rfl ?_
      simp only [Act.put, List.setIfInBounds_toArray, List.set_cons_zero, List.set_cons_succ]
      refine lex_mv (.slice (some ⟨b, off, none⟩) n cap) _ rfl rfl rfl ?_
      simp only [Act.put, List.setIfInBounds_toArray, List.set_cons_zero, List.set_cons_succ]
      refine lex_mv (.int .i64 (k : Int)) _ rfl rfl rfl ?_
      simp only [Act.put, List.setIfInBounds_toArray, List.set_cons_zero, List.set_cons_succ]
      refine lex_index 68 70 _ _ b off n cap k 20 rfl rfl rfl rfl hlt Trym.underlying68 i70 ?_
      simp only [Act.put, List.setIfInBounds_toArray, List.set_cons_zero, List.set_cons_succ]
      refine lex_load 70 _ b (off + k * 20) (f k) _ rfl rfl rfl (fun _ h => h) Trym.underlying70 rfl (by rw [i70, hlk]) ?_
      simp only [Act.put, List.setIfInBounds_toArray, List.set_cons_zero, List.set_cons_succ]
      refine lex_index 28 34 _ _ w.heap.size 0 n n k 20 rfl rfl rfl rfl hlt Trym.underlying28 i34 ?_
      simp only [Act.put, List.setIfInBounds_toArray, List.set_cons_zero, List.set_cons_succ]
      refine lex_store 34 _ _ w.heap.size (0 + k * 20) (f k).toArray rfl rfl rfl rfl rfl HT.out (by rw [i34, List.size_toArray, hlk]) (all_oneCell_toArray (HR.out.2.2.1 k hlt)) (World.rangeAt_setCells_apart hra1 _ _ _ (.inl (by omega))) ?_
      simp only [Act.put, List.setIfInBounds_toArray, List.set_cons_zero, List.set_cons_succ]
      refine lex_nil (NoPanic.normal ?_)
      clear hra1 HT hlk hbw
      go_wp2
      go_roundw
      case rel => exact ⟨k + 1, by omega, by go_num, HN.out.2.1, HN.out.1, HN.out.2.2⟩
      case measure => simp [intOf]; omega
    · have : k = n := by omega
      subst this
      have HB := hide (And.intro hwb (And.intro hout hbel))
      clear hwb hout hbel
      go_wp2
      go_ret
      exact ⟨rfl, HB.out.1, HB.out.2.1, HB.out.2.2⟩

theorem idsOut_nil (w : World) : Calls Trym.prog 33 #[.slice none 0 0] w fun er w' => er = .returned (.slice none 0 0) ∧ w' = w := by
  have hnil := fun W : World => Lib.run_eql_slice_nil (P := Trym.prog) W 68 70 none 0 0 0 0 Trym.underlying68
  go_enter Trym.func33, Trym.ntmps33
  go_wp2
  go_ret
  exact ⟨rfl, rfl⟩

end Go.Proofs.Qxb6601415aMods
