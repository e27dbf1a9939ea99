import Derived.Test.Qxb6601415aModsS
namespace Go.Proofs.Qxb6601415aMods
open Go.RowKit Go.Extern.Stop
set_option linter.unusedVariables false
set_option linter.unusedSimpArgs false
set_option maxRecDepth 20000

theorem i49 : (Trym.prog.info? 49).map (·.size) = some 1 := by kernel_rfl

theorem SlV.form {w : World} {v : Value} {n sz : Nat} {f : Nat → List Value} (h : SlV w v n sz f) : ∃ a c, v = .slice a n c := by
  rcases h with ⟨rfl, rfl⟩ | ⟨b, off, cap, rfl, hr⟩
  · exact ⟨_, _, rfl⟩
  · exact ⟨_, _, rfl⟩

/-- The trees of the first k entries. -/
def Kept (w : World) (k B : Nat) (tv' tv : Nat → Value) (tn : Nat → Nat) (tt : Nat → Nat → Tr) : Prop := ∀ i, i < k → TreesV w (tv' i) (tn i) (tt i) ∧ NilAs (tv' i) (tv i) ∧ Fresh (tv' i) B
theorem Kept.below {w w' : World} {k B : Nat} {tv' tv : Nat → Value} {tn : Nat → Nat} {tt : Nat → Nat → Tr} (h : Kept w k B tv' tv tn tt) {D : Nat} (hB : Below D w w') (hle : w.heap.size ≤ D) : Kept w' k B tv' tv tn tt :=
  fun i hi => ⟨(h i hi).1.below hB hle, (h i hi).2⟩
theorem Kept.snoc {w : World} {k g : Nat} {tv' tv : Nat → Value} {tn : Nat → Nat} {tt : Nat → Nat → Tr} (h : Kept w k (g + 1) tv' tv tn tt) {v : Value} (hv : TreesV w v (tn k) (tt k)) (hn : NilAs v (tv k)) (hf : Fresh v (g + 1)) (o : Nat) (vs : List Value) :
    Kept (w.setCells g o vs) (k + 1) (g + 1) (fun i => if i = k then v else tv' i) tv tn tt := fun i hi => by
  by_cases h2 : i = k
  · subst h2
    simp only [if_pos]
    exact ⟨hv.setCells hf o vs, hn, hf⟩
  · simp only [if_neg h2]
    have := h i (by omega)
    exact ⟨this.1.setCells this.2.2 o vs, this.2⟩

theorem ent_one (x : List UInt8) (a : Option Addr) (n c : Nat) : ∀ v ∈ ent x (.slice a n c), v.oneCell' = true := fun u hu => by
  simp only [ent, List.mem_append, List.mem_cons, List.not_mem_nil, or_false] at hu
  rcases hu with hu | rfl
  · exact idc_one _ u hu
  · rfl
theorem ent_length {x : List UInt8} (h : x.length = 20) (v : Value) : (ent x v).length = 21 := by simp [ent, idc_length, h]

/-- Trees that came in: as 'TreesV', or an empty slice at any address at all. -/
def TreesW (w : World) (v : Value) (n : Nat) (ts : Nat → Tr) : Prop := TreesV w v n ts ∨ (n = 0 ∧ ∃ x c, v = .slice (some x) 0 c)
theorem TreesW.below {w w' : World} {v : Value} {n : Nat} {ts : Nat → Tr} (h : TreesW w v n ts) {B : Nat} (hB : Below B w w') (hle : w.heap.size ≤ B) : TreesW w' v n ts := by
  rcases h with h | h
  · exact .inl (h.below hB hle)
  · exact .inr h

theorem cloneTrees_empty (x : Addr) (cap : Nat) (w : World) :
    Calls Trym.prog 34 #[.slice (some x) 0 cap] w fun e w' => e = .returned (.slice (some ⟨w.heap.size, 0, none⟩) 0 0) ∧ Below w.heap.size w w' := by
  have hnil := fun W : World => Lib.run_eql_slice_nil (P := Trym.prog) W 49 60 (some x) 0 cap 0 0 Trym.underlying49
  obtain ⟨C, hC, hmk⟩ := make_wide Trym.underlying49 f60 (by omega) 0 (by omega)
  have hmk0 : ∀ W : World, (Instr.makeSlice 49 (.int .i64 0) (.int .i64 0)).run Trym.prog W = .ok (.slice (some ⟨W.heap.size, 0, none⟩) 0 0) (W.alloc (.cells C 60)) := fun W => hmk W
  clear hC hmk
  go_enter Trym.func34, Trym.ntmps34
  go_wp2
  refine wp_loop_rounds 1 ?_
  rw [rounds_succ]
  go_wp2
  go_ret
  exact ⟨rfl, (Below.refl _ _).alloc (Nat.le_refl _) _⟩

theorem cloneTrees_anyW (v : Value) (n : Nat) (ts : Nat → Tr) (w : World) (hn : n ≤ 4096) (h : TreesW w v n ts) :
    Calls Trym.prog 34 #[v] w fun e w' => ∃ v', e = .returned v' ∧ TreesV w' v' n ts ∧ NilAs v' v ∧ Fresh v' w.heap.size ∧ Below w.heap.size w w' := by
  rcases h with h | ⟨rfl, x, c, rfl⟩
  · exact cloneTrees_any v n ts w hn h
  · exact (cloneTrees_empty x c w).mono fun e w' ⟨he, hB⟩ => ⟨_, he, ⟨.inr ⟨_, 0, 0, rfl, fun i hi => absurd hi (by omega)⟩, fun i hi => absurd hi (by omega)⟩, by simp [NilAs], Fresh.at (Nat.le_refl _) 0 0, hB⟩

set_option maxHeartbeats 4000000 in
theorem cloneB_some (b off n cap : Nat) (bid : Nat → List UInt8) (tv : Nat → Value) (tn : Nat → Nat) (tt : Nat → Nat → Tr) (w : World) (hn : n ≤ 4096) (hl : ∀ i, i < n → (bid i).length = 20) (hrow : WRow w b off n 21 (fun i => ent (bid i) (tv i)))
    (hts : ∀ i, i < n → TreesW w (tv i) (tn i) (tt i)) (htn : ∀ i, i < n → tn i ≤ 4096) :
    Calls Trym.prog 20 #[.slice (some ⟨b, off, none⟩) n cap] w fun e w' => ∃ tv', e = .returned (.slice (some ⟨w.heap.size, 0, none⟩) n n) ∧ BasesV w' (.slice (some ⟨w.heap.size, 0, none⟩) n n) n bid tv' ∧ Kept w' n (w.heap.size + 1) tv' tv tn tt ∧ Below w.heap.size w w' := by
  have hnil := fun W : World => Lib.run_eql_slice_nil (P := Trym.prog) W 39 50 (some ⟨b, off, none⟩) n cap 0 0 Trym.underlying39
  obtain ⟨C, hC, hmk⟩ := make_wide Trym.underlying39 f50 (by omega) n (by omega)
  have HR := hide (And.intro hrow (And.intro hl (And.intro hC (And.intro hts htn))))
  clear hrow hl hC hts htn
  go_enter Trym.func20, Trym.ntmps20
  go_wp2
  clear hnil hmk
  go_loopw [4] (fun i wr => ∃ k : Nat, k ≤ n ∧ i = .int .i64 k ∧ WB wr w.heap.size 50 (n * 21) ∧ (∃ tv', WRow wr w.heap.size 0 k 21 (fun i => ent (bid i) (tv' i)) ∧ Kept wr k (w.heap.size + 1) tv' tv tn tt) ∧ Below w.heap.size w wr) (fun i _ => n - (intOf i).toNat)
  case atStart => exact ⟨0, Nat.zero_le _, rfl, WB_new _ _ _ HR.out.2.2.1, ⟨tv, fun i hi => absurd hi (by omega), fun i hi => absurd hi (by omega)⟩, (Below.refl _ _).alloc (Nat.le_refl _) _⟩
  case round =>
    obtain ⟨k, hk, rfl, hwb, ⟨tv', hout, hkept⟩, hbel⟩ := hrel
    by_cases hlt : k < n
    · have hra := HR.out.1 k hlt
      have hlk := HR.out.2.1 k hlt
      have hbw : b < w.heap.size := rangeAt_lt hra (by simp [ent])
      have hra1 := rangeAt_below hbel hbw hra
      have htk : TreesW wr.drew (tv k) (tn k) (tt k) := (HR.out.2.2.2.1 k hlt).below hbel.drew (Nat.le_refl _)
      have htnk := HR.out.2.2.2.2 k hlt
      have HW := hide (And.intro hwb (And.intro hout (And.intro hkept hbel)))
      clear hra hwb hout hkept hbel
      go_upto_region 7 with fail
      refine wp_region_lex (fun w' => w'.rangeAt b (off + k * 21) (ent (bid k) (tv k))) (by kernel_rfl) (by kernel_rfl) ((World.rangeAt_drew _ _ _ _).2 hra1) ?_
      refine lex_mv (.slice (some ⟨w.heap.size, 0, none⟩) n n) _ rfl rfl rfl ?_
      simp only [Act.put, List.setIfInBounds_toArray, List.set_cons_zero, List.set_cons_succ]
      refine lex_mv (.int .i64 (k : Int)) _ rfl rfl rfl ?_
      simp only [Act.put, List.setIfInBounds_toArray, List.set_cons_zero, List.set_cons_succ]
      refine lex_mv (.slice (some ⟨b, off, none⟩) n cap) _ rfl rfl rfl ?_
      simp only [Act.put, List.setIfInBounds_toArray, List.set_cons_zero, List.set_cons_succ]
      refine lex_mv (.int .i64 (k : Int)) _ rfl rfl rfl ?_
      simp only [Act.put, List.setIfInBounds_toArray, List.set_cons_zero, List.set_cons_succ]
      refine lex_index 39 50 _ _ b off n cap k 21 rfl rfl rfl rfl hlt Trym.underlying39 i50 ?_
      simp only [Act.put, List.setIfInBounds_toArray, List.set_cons_zero, List.set_cons_succ]
      refine lex_field 50 _ 0 b (off + k * 21) 0 _ _ rfl rfl rfl Trym.underlying50 rfl i34 rfl ?_
      simp only [Act.put, List.setIfInBounds_toArray, List.set_cons_zero, List.set_cons_succ]
      refine lex_load 34 _ b (off + k * 21 + 0) (idc (bid k)) _ rfl rfl rfl (fun _ h => rangeAt_left h) Trym.underlying34 rfl (by rw [i34, idc_length, hlk]) ?_
      simp only [Act.put, List.setIfInBounds_toArray, List.set_cons_zero, List.set_cons_succ]
      refine lex_mv (.slice (some ⟨b, off, none⟩) n cap) _ rfl rfl rfl ?_
      simp only [Act.put, List.setIfInBounds_toArray, List.set_cons_zero, List.set_cons_succ]
      refine lex_mv (.int .i64 (k : Int)) _ rfl rfl rfl ?_
      simp only [Act.put, List.setIfInBounds_toArray, List.set_cons_zero, List.set_cons_succ]
      refine lex_index 39 50 _ _ b off n cap k 21 rfl rfl rfl rfl hlt Trym.underlying39 i50 ?_
      simp only [Act.put, List.setIfInBounds_toArray, List.set_cons_zero, List.set_cons_succ]
      refine lex_field 50 _ 1 b (off + k * 21) 20 _ _ rfl rfl rfl Trym.underlying50 rfl i49 rfl ?_
      simp only [Act.put, List.setIfInBounds_toArray, List.set_cons_zero, List.set_cons_succ]
      refine lex_load1 49 _ b (off + k * 21 + 20) (tv k) rfl rfl rfl (fun _ h => rangeAt_head (rangeAt_right h (by rw [idc_length, hlk]))) (fun w => Trym.isAgg49 w) ?_
      simp only [Act.put, List.setIfInBounds_toArray, List.set_cons_zero, List.set_cons_succ]
      refine lex_solek (by kernel_rfl) rfl (fun K hK => ?_)
      go_simp
      refine (cloneTrees_anyW (tv k) (tn k) (tt k) wr.drew htnk htk).mono ?_
      rintro e w1 ⟨v', rfl, hv', hnv', hfr, hb1⟩
      refine hK.out _ _ (rangeAt_below hb1 (Nat.lt_of_lt_of_le hbw HW.out.2.2.2.size) ((World.rangeAt_drew _ _ _ _).2 hra1)) ?_
      clear hK
      try simp only [Act.put, List.setIfInBounds_toArray, List.set_cons_zero, List.set_cons_succ]
      obtain ⟨a', c', rfl⟩ := hv'.1.form
      have hgw : w.heap.size < wr.drew.heap.size := HW.out.1.lt
      have hwb1 : WB w1 w.heap.size 50 (n * 21) := WB.below (w := wr.drew) HW.out.1 hb1 hgw
      have hout1 : WRow w1 w.heap.size 0 k 21 (fun i => ent (bid i) (if i = k then .slice a' (tn k) c' else tv' i)) := fun i hi => by
        simp only [if_neg (show i ≠ k by omega)]
        exact rangeAt_below hb1 hgw (HW.out.2.1 i hi)
      have hkept1 : Kept w1 k (w.heap.size + 1) tv' tv tn tt := Kept.below (w := wr.drew) HW.out.2.2.1 hb1 (Nat.le_refl _)
      have hbel1 : Below w.heap.size w w1 := HW.out.2.2.2.drew.trans (hb1.mono (Nat.le_of_lt hgw))
      have hra2 := rangeAt_below hb1 (Nat.lt_of_lt_of_le hbw HW.out.2.2.2.size) ((World.rangeAt_drew _ _ _ _).2 hra1)
      have hth : w1.there w.heap.size (0 + k * 21) (ent (bid k) (.slice a' (tn k) c')).toArray.size := hwb1.there (by rw [List.size_toArray, ent_length hlk]; omega)
      have hnx := hout1.snoc hwb1 (by omega) (fun i hi => ent_length (HR.out.2.1 i (by omega)) _)
      simp only [if_pos] at hnx
      have hkn := hkept1.snoc hv' hnv' (hfr.mono hgw) (0 + k * 21) (ent (bid k) (.slice a' (tn k) c'))
      have hwb2 := hwb1.setCells (0 + k * 21) (ent (bid k) (.slice a' (tn k) c'))
      have hbel2 := below_setCells (Nat.le_refl w.heap.size) (ent (bid k) (.slice a' (tn k) c')) (0 + k * 21) w1 hbel1
      rw [Nat.zero_add] at hnx hwb2 hbel2 hkn
      have HN := hide (And.intro hwb2 (And.intro hnx (And.intro hkn hbel2)))
      have HT := hide hth
      clear hwb1 hout1 hkept1 hbel1 hnx hkn hwb2 hbel2 hth hv' hnv' hfr hra1
      refine lex_build 50 _ #[(0, .agg (idc (bid k)).toArray), (1, .slice a' (tn k) c')] (.agg (ent (bid k) (.slice a' (tn k) c')).toArray) rfl rfl rfl (build50 _ hlk _ _ _) ?_
      simp only [Act.put, List.setIfInBounds_toArray, List.set_cons_zero, List.set_cons_succ]
      refine lex_index 39 50 _ _ w.heap.size 0 n n k 21 rfl rfl rfl rfl hlt Trym.underlying39 i50 ?_
      simp only [Act.put, List.setIfInBounds_toArray, List.set_cons_zero, List.set_cons_succ]
      refine lex_store 50 _ _ w.heap.size (0 + k * 21) (ent (bid k) (.slice a' (tn k) c')).toArray (by kernel_rfl) rfl rfl rfl rfl HT.out (by rw [i50, List.size_toArray, ent_length hlk]) (all_oneCell_toArray (ent_one _ _ _ _)) (World.rangeAt_setCells_apart hra2 _ _ _ (.inl (by omega))) ?_
      simp only [Act.put, List.setIfInBounds_toArray, List.set_cons_zero, List.set_cons_succ]
      refine lex_nil (NoPanic.normal ?_)
      clear HT hlk hbw hra2 HW htk htnk hb1 hgw
      go_wp2
      go_roundw
      case rel => exact ⟨k + 1, by omega, by go_num, HN.out.1, ⟨_, HN.out.2.1, HN.out.2.2.1⟩, HN.out.2.2.2⟩
      case measure => simp [intOf]; omega
    · have : k = n := by omega
      subst this
      have HB := hide (And.intro hout (And.intro hkept hbel))
      clear hwb hout hbel hkept
      go_wp2
      go_ret
      exact ⟨tv', rfl, ⟨.inr ⟨_, 0, k, rfl, HB.out.1⟩, HR.out.2.1⟩, HB.out.2.1, HB.out.2.2⟩

theorem cloneB_nil (w : World) : Calls Trym.prog 20 #[.slice none 0 0] w fun er w' => er = .returned (.slice none 0 0) ∧ w' = w := by
  have hnil := fun W : World => Lib.run_eql_slice_nil (P := Trym.prog) W 39 50 none 0 0 0 0 Trym.underlying39
  go_enter Trym.func20, Trym.ntmps20
  go_wp2
  go_ret
  exact ⟨rfl, rfl⟩

theorem cloneB_any (v : Value) (n : Nat) (bid : Nat → List UInt8) (tv : Nat → Value) (tn : Nat → Nat) (tt : Nat → Nat → Tr) (w : World) (hn : n ≤ 4096) (h : BasesV w v n bid tv) (hts : ∀ i, i < n → TreesW w (tv i) (tn i) (tt i)) (htn : ∀ i, i < n → tn i ≤ 4096) :
    Calls Trym.prog 20 #[v] w fun e w' => ∃ v' tv', e = .returned v' ∧ BasesV w' v' n bid tv' ∧ Kept w' n w.heap.size tv' tv tn tt ∧ Below w.heap.size w w' := by
  obtain ⟨⟨rfl, rfl⟩ | ⟨b, off, cap, rfl, hr⟩, hl⟩ := h
  · exact (cloneB_nil w).mono fun e w' ⟨he, hw⟩ => ⟨_, tv, he, ⟨.inl ⟨rfl, rfl⟩, hl⟩, fun i hi => absurd hi (by omega), hw ▸ Below.refl _ _⟩
  · exact (cloneB_some b off n cap bid tv tn tt w hn hl hr hts htn).mono fun e w' ⟨tv', he, h1, h2, hB⟩ => ⟨_, tv', he, h1, fun i hi => ⟨(h2 i hi).1, (h2 i hi).2.1, (h2 i hi).2.2.mono (by omega)⟩, hB⟩

end Go.Proofs.Qxb6601415aMods
