import Derived.Test.Qxb6601415aModsR
namespace Go.Proofs.Qxb6601415aMods
open Go.RowKit Go.Extern.Stop
set_option linter.unusedVariables false
set_option linter.unusedSimpArgs false
set_option maxRecDepth 20000

theorem SlV.below {w w' : World} {v : Value} {n sz : Nat} {f : Nat → List Value} (h : SlV w v n sz f) (hf : ∀ i, i < n → 0 < (f i).length) {B : Nat} (hB : Below B w w') (hle : w.heap.size ≤ B) : SlV w' v n sz f := by
  rcases h with h | ⟨b, off, cap, rfl, hr⟩
  · exact .inl h
  · exact .inr ⟨b, off, cap, rfl, fun i hi => rangeAt_below hB (Nat.lt_of_lt_of_le (rangeAt_lt (hr i hi) (hf i hi)) hle) (hr i hi)⟩
theorem IdsV.below {w w' : World} {v : Value} {n : Nat} {ids : Nat → List UInt8} (h : IdsV w v n ids) {B : Nat} (hB : Below B w w') (hle : w.heap.size ≤ B) : IdsV w' v n ids := ⟨h.1.below (fun i hi => by rw [idc_length, h.2 i hi]; omega) hB hle, h.2⟩
theorem WaitsV.below {w w' : World} {v : Value} {n : Nat} {wid : Nat → List UInt8} {wn : Nat → Int} (h : WaitsV w v n wid wn) {B : Nat} (hB : Below B w w') (hle : w.heap.size ≤ B) : WaitsV w' v n wid wn := ⟨h.1.below (fun i hi => by simp [ent]) hB hle, h.2⟩
theorem BasesV.below {w w' : World} {v : Value} {n : Nat} {bid : Nat → List UInt8} {tv : Nat → Value} (h : BasesV w v n bid tv) {B : Nat} (hB : Below B w w') (hle : w.heap.size ≤ B) : BasesV w' v n bid tv := ⟨h.1.below (fun i hi => by simp [ent]) hB hle, h.2⟩
theorem TreesV.below {w w' : World} {v : Value} {n : Nat} {ts : Nat → Tr} (h : TreesV w v n ts) {B : Nat} (hB : Below B w w') (hle : w.heap.size ≤ B) : TreesV w' v n ts := ⟨h.1.below (fun i hi => by rw [trc_length (h.2 i hi)]; omega) hB hle, h.2⟩

/-- The slice v (if it is not nil) lies in a block from B on. -/
def Fresh (v : Value) (B : Nat) : Prop := ∀ b off n cap, v = .slice (some ⟨b, off, none⟩) n cap → B ≤ b
theorem Fresh.nil (B : Nat) : Fresh (.slice none 0 0) B := fun b off n cap h => by simp at h
theorem Fresh.at {B b : Nat} (h : B ≤ b) (n cap : Nat) : Fresh (.slice (some ⟨b, 0, none⟩) n cap) B := fun b' off n cap e => by
  simp at e
  omega
theorem Fresh.mono {v : Value} {B B' : Nat} (h : Fresh v B) (hB : B' ≤ B) : Fresh v B' := fun b off n cap e => Nat.le_trans hB (h b off n cap e)
theorem SlV.setCells {w : World} {v : Value} {n sz g : Nat} {f : Nat → List Value} (h : SlV w v n sz f) (hf : Fresh v (g + 1)) (o : Nat) (vs : List Value) : SlV (w.setCells g o vs) v n sz f := by
  rcases h with h | ⟨b, off, cap, rfl, hr⟩
  · exact .inl h
  · have := hf b off n cap rfl
    exact .inr ⟨b, off, cap, rfl, hr.apart (by omega)⟩
theorem TreesV.setCells {w : World} {v : Value} {n g : Nat} {ts : Nat → Tr} (h : TreesV w v n ts) (hf : Fresh v (g + 1)) (o : Nat) (vs : List Value) : TreesV (w.setCells g o vs) v n ts := ⟨h.1.setCells hf o vs, h.2⟩

/-- v' is nil just where v is. -/
def NilAs (v' v : Value) : Prop := v' = .slice none 0 0 ↔ v = .slice none 0 0

theorem cloneIDs_any (v : Value) (n : Nat) (ids : Nat → List UInt8) (w : World) (hn : n ≤ 4096) (h : IdsV w v n ids) :
    Calls Trym.prog 13 #[v] w fun e w' => ∃ v', e = .returned v' ∧ IdsV w' v' n ids ∧ NilAs v' v ∧ Fresh v' w.heap.size ∧ Below w.heap.size w w' := by
  obtain ⟨⟨rfl, rfl⟩ | ⟨b, off, cap, rfl, hr⟩, hl⟩ := h
  · exact (cloneIDs_nil w).mono fun e w' ⟨he, hw⟩ => ⟨_, he, ⟨.inl ⟨rfl, rfl⟩, hl⟩, Iff.rfl, Fresh.nil _, hw ▸ Below.refl _ _⟩
  · exact (cloneIDs_some b off n cap _ w hn (fun i hi => by rw [idc_length, hl i hi]) (fun i _ => idc_one _) hr).mono fun e w' ⟨he, _, hr', hB⟩ => ⟨_, he, ⟨.inr ⟨_, 0, n, rfl, hr'⟩, hl⟩, by simp [NilAs], Fresh.at (Nat.le_refl _) n n, hB⟩
theorem cloneWaits_any (v : Value) (n : Nat) (wid : Nat → List UInt8) (wn : Nat → Int) (w : World) (hn : n ≤ 4096) (h : WaitsV w v n wid wn) :
    Calls Trym.prog 21 #[v] w fun e w' => ∃ v', e = .returned v' ∧ WaitsV w' v' n wid wn ∧ NilAs v' v ∧ Fresh v' w.heap.size ∧ Below w.heap.size w w' := by
  obtain ⟨⟨rfl, rfl⟩ | ⟨b, off, cap, rfl, hr⟩, hl⟩ := h
  · exact (cloneWaits_nil w).mono fun e w' ⟨he, hw⟩ => ⟨_, he, ⟨.inl ⟨rfl, rfl⟩, hl⟩, Iff.rfl, Fresh.nil _, hw ▸ Below.refl _ _⟩
  · exact (cloneWaits_some b off n cap _ w hn (fun i hi => by simp [ent, idc_length, hl i hi]) (fun i _ u hu => by
      simp only [ent, List.mem_append, List.mem_cons, List.not_mem_nil, or_false] at hu
      rcases hu with hu | rfl
      · exact idc_one _ u hu
      · rfl) hr).mono fun e w' ⟨he, _, hr', hB⟩ => ⟨_, he, ⟨.inr ⟨_, 0, n, rfl, hr'⟩, hl⟩, by simp [NilAs], Fresh.at (Nat.le_refl _) n n, hB⟩
theorem cloneTrees_any (v : Value) (n : Nat) (ts : Nat → Tr) (w : World) (hn : n ≤ 4096) (h : TreesV w v n ts) :
    Calls Trym.prog 34 #[v] w fun e w' => ∃ v', e = .returned v' ∧ TreesV w' v' n ts ∧ NilAs v' v ∧ Fresh v' w.heap.size ∧ Below w.heap.size w w' := by
  obtain ⟨⟨rfl, rfl⟩ | ⟨b, off, cap, rfl, hr⟩, hl⟩ := h
  · exact (cloneTrees_nil w).mono fun e w' ⟨he, hw⟩ => ⟨_, he, ⟨.inl ⟨rfl, rfl⟩, hl⟩, Iff.rfl, Fresh.nil _, hw ▸ Below.refl _ _⟩
  · exact (cloneTrees_some b off n cap _ w hn (fun i hi => trc_length (hl i hi)) (fun i _ => trc_one _) hr).mono fun e w' ⟨he, _, hr', hB⟩ => ⟨_, he, ⟨.inr ⟨_, 0, n, rfl, hr'⟩, hl⟩, by simp [NilAs], Fresh.at (Nat.le_refl _) n n, hB⟩
theorem treesIn_any (v : Value) (n : Nat) (ts : Nat → Tr) (w : World) (hn : n ≤ 100000000) (h : TreesV w v n ts) :
    Calls Trym.prog 35 #[v] w fun e w' => ∃ v', e = .returned v' ∧ TreesV w' v' n ts ∧ NilAs v' v ∧ Fresh v' w.heap.size ∧ Below w.heap.size w w' := by
  obtain ⟨⟨rfl, rfl⟩ | ⟨b, off, cap, rfl, hr⟩, hl⟩ := h
  · exact (treesIn_nil w).mono fun e w' ⟨he, hw⟩ => ⟨_, he, ⟨.inl ⟨rfl, rfl⟩, hl⟩, Iff.rfl, Fresh.nil _, hw ▸ Below.refl _ _⟩
  · exact (treesIn_some b off n cap _ w hn hl hr).mono fun e w' ⟨he, _, hr', hB⟩ => ⟨_, he, ⟨.inr ⟨_, 0, n, rfl, hr'⟩, hl⟩, by simp [NilAs], Fresh.at (Nat.le_refl _) n n, hB⟩
theorem treesOut_any (v : Value) (n : Nat) (ts : Nat → Tr) (w : World) (hn : n ≤ 100000000) (h : TreesV w v n ts) :
    Calls Trym.prog 36 #[v] w fun e w' => ∃ v', e = .returned v' ∧ TreesV w' v' n ts ∧ NilAs v' v ∧ Fresh v' w.heap.size ∧ Below w.heap.size w w' := by
  obtain ⟨⟨rfl, rfl⟩ | ⟨b, off, cap, rfl, hr⟩, hl⟩ := h
  · exact (treesOut_nil w).mono fun e w' ⟨he, hw⟩ => ⟨_, he, ⟨.inl ⟨rfl, rfl⟩, hl⟩, Iff.rfl, Fresh.nil _, hw ▸ Below.refl _ _⟩
  · exact (treesOut_some b off n cap _ w hn hl hr).mono fun e w' ⟨he, _, hr', hB⟩ => ⟨_, he, ⟨.inr ⟨_, 0, n, rfl, hr'⟩, hl⟩, by simp [NilAs], Fresh.at (Nat.le_refl _) n n, hB⟩
theorem idsOut_any (v : Value) (n : Nat) (ids : Nat → List UInt8) (w : World) (hn : n ≤ 4096) (h : IdsV w v n ids) :
    Calls Trym.prog 33 #[v] w fun e w' => ∃ v', e = .returned v' ∧ IdsV w' v' n ids ∧ NilAs v' v ∧ Fresh v' w.heap.size ∧ Below w.heap.size w w' := by
  obtain ⟨⟨rfl, rfl⟩ | ⟨b, off, cap, rfl, hr⟩, hl⟩ := h
  · exact (idsOut_nil w).mono fun e w' ⟨he, hw⟩ => ⟨_, he, ⟨.inl ⟨rfl, rfl⟩, hl⟩, Iff.rfl, Fresh.nil _, hw ▸ Below.refl _ _⟩
  · exact (idsOut_some b off n cap _ w hn (fun i hi => by rw [idc_length, hl i hi]) (fun i _ => idc_one _) hr).mono fun e w' ⟨he, _, hr', hB⟩ => ⟨_, he, ⟨.inr ⟨_, 0, n, rfl, hr'⟩, hl⟩, by simp [NilAs], Fresh.at (Nat.le_refl _) n n, hB⟩

section
variable {P : Program} {ops : Array Oper} {Q : Exit → Act → World → Prop} {S : World → Prop} {pl : Bool} {k : Nat} {o : Oper} {rest : List Oper} {a : Act} {w : World}
theorem lex_solek (hs : (pl || soleAt ops k) = true) (hw : Region.wanted o (yielded ops a.tmps) = true) (h : ∀ K : Act → World → Prop, Shut (∀ a w, S w → Lex P pl ops Q S (k + 1) rest a w → K a w) → o.wp P a w K Q) : Lex P pl ops Q S k (o :: rest) a w :=
  lex_sole hs hw (h _ (fun a w h1 h2 => ⟨h1, h2⟩))
end

set_option maxHeartbeats 2000000 in
theorem probeB_some (b off n cap : Nat) (bid : Nat → List UInt8) (tv : Nat → Value) (w : World) (hn : n ≤ 4096) (hl : ∀ i, i < n → (bid i).length = 20) (hrow : WRow w b off n 21 (fun i => ent (bid i) (tv i))) :
    Calls Trym.prog 24 #[.slice (some ⟨b, off, none⟩) n cap] w fun e w' => ∃ v', e = .returned v' ∧ IdsV w' v' n bid ∧ Below w.heap.size w w' := by
  obtain ⟨C, hC, hmk⟩ := make_wide Trym.underlying28 f34 (by omega) n (by omega)
  have HR := hide (And.intro hrow (And.intro hl hC))
  clear hrow hl hC
  go_enter Trym.func24, Trym.ntmps24
  go_wp2
  clear hmk
  go_loopw [4] (fun i wr => ∃ k : Nat, k ≤ n ∧ i = .int .i64 k ∧ WB wr w.heap.size 34 (n * 20) ∧ WRow wr w.heap.size 0 k 20 (fun i => idc (bid i)) ∧ Below w.heap.size w wr) (fun i _ => n - (intOf i).toNat)
  case atStart => exact ⟨0, Nat.zero_le _, rfl, WB_new _ _ _ HR.out.2.2, fun i hi => absurd hi (by omega), (Below.refl _ _).alloc (Nat.le_refl _) _⟩
  case round =>
    obtain ⟨k, hk, rfl, hwb, hout, hbel⟩ := hrel
    by_cases hlt : k < n
    · have hra := HR.out.1 k hlt
      have hlk : (idc (bid k)).length = 20 := by rw [idc_length, HR.out.2.1 k hlt]
      have hbw : b < w.heap.size := rangeAt_lt hra (by simp [ent])
      have hra1 : wr.rangeAt b (off + k * 21 + 0) (idc (bid k)) := rangeAt_below hbel hbw (rangeAt_left hra)
      have hth : wr.there w.heap.size (0 + k * 20) (idc (bid k)).toArray.size := hwb.there (by rw [List.size_toArray, hlk]; omega)
      have hnx := WRow.snoc (f := fun i => idc (bid i)) hout hwb (by omega) (fun i hi => by rw [idc_length, HR.out.2.1 i (by omega)])
      have hwb2 := hwb.setCells (0 + k * 20) (idc (bid k))
      have hbel2 := below_setCells (Nat.le_refl w.heap.size) (idc (bid k)) (0 + k * 20) wr hbel
      rw [Nat.zero_add] at hnx hwb2 hbel2
      have HN := hide (And.intro hnx (And.intro hwb2 hbel2))
      have HT := hide hth
      clear hra hnx hwb2 hbel2 hwb hout hbel hth
      go_upto_region 5 with fail
      refine wp_region_lexp (fun w' => w'.rangeAt b (off + k * 21 + 0) (idc (bid k))) hra1 ?_
      refine lex_mv (.slice (some ⟨w.heap.size, 0, none⟩) n n) _ rfl rfl rfl ?_
      simp only [Act.put, List.setIfInBounds_toArray, List.set_cons_zero, List.set_cons_succ]
      refine lex_mv (.int .i64 (k : Int)) _ rfl rfl rfl ?_
      simp only [Act.put, List.setIfInBounds_toArray, List.set_cons_zero, List.set_cons_succ]
      refine lex_mv (.slice (some ⟨b, off, none⟩) n cap) _ rfl rfl rfl ?_
      simp only [Act.put, List.setIfInBounds_toArray, List.set_cons_zero, List.set_cons_succ]
      refine lex_mv (.int .i64 (k : Int)) _ rfl rfl rfl ?_
      simp only [Act.put, List.setIfInBounds_toArray, List.set_cons_zero, List.set_cons_succ]
      refine lex_index 39 50 _ _ b off n cap k 21 rfl rfl rfl rfl hlt Trym.underlying39 i50 ?_
      simp only [Act.put, List.setIfInBounds_toArray, List.set_cons_zero, List.set_cons_succ]
      refine lex_field 50 _ 0 b (off + k * 21) 0 _ _ rfl rfl rfl Trym.underlying50 rfl i34 rfl ?_
      simp only [Act.put, List.setIfInBounds_toArray, List.set_cons_zero, List.set_cons_succ]
      refine lex_load 34 _ b (off + k * 21 + 0) (idc (bid k)) _ rfl rfl rfl (fun _ h => h) Trym.underlying34 rfl (by rw [i34, hlk]) ?_
      simp only [Act.put, List.setIfInBounds_toArray, List.set_cons_zero, List.set_cons_succ]
      refine lex_index 28 34 _ _ w.heap.size 0 n n k 20 rfl rfl rfl rfl hlt Trym.underlying28 i34 ?_
      simp only [Act.put, List.setIfInBounds_toArray, List.set_cons_zero, List.set_cons_succ]
      refine lex_store 34 _ _ w.heap.size (0 + k * 20) (idc (bid k)).toArray rfl rfl rfl rfl rfl HT.out (by rw [i34, List.size_toArray, hlk]) (all_oneCell_toArray (idc_one _)) (World.rangeAt_setCells_apart hra1 _ _ _ (.inl (by omega))) ?_
      simp only [Act.put, List.setIfInBounds_toArray, List.set_cons_zero, List.set_cons_succ]
      refine lex_nil (NoPanic.normal ?_)
      clear hra1 HT hlk hbw
      go_wp2
      go_roundw
      case rel => exact ⟨k + 1, by omega, by go_num, HN.out.2.1, HN.out.1, HN.out.2.2⟩
      case measure => simp [intOf]; omega
    · have : k = n := by omega
      subst this
      have HB := hide (And.intro hout hbel)
      clear hwb hout hbel
      go_wp2
      go_ret
      exact ⟨_, rfl, ⟨.inr ⟨_, 0, k, rfl, HB.out.1⟩, HR.out.2.1⟩, HB.out.2⟩

theorem probeB_nil (bid : Nat → List UInt8) (w : World) :
    Calls Trym.prog 24 #[.slice none 0 0] w fun e w' => ∃ v', e = .returned v' ∧ IdsV w' v' 0 bid ∧ Below w.heap.size w w' := by
  obtain ⟨C, hC, hmk⟩ := make_wide Trym.underlying28 f34 (by omega) 0 (by omega)
  have hmk0 : ∀ w : World, (Instr.makeSlice 28 (.int .i64 0) (.int .i64 0)).run Trym.prog w = .ok (.slice (some ⟨w.heap.size, 0, none⟩) 0 0) (w.alloc (.cells C 34)) := hmk
  clear hC hmk
  go_enter Trym.func24, Trym.ntmps24
  go_wp2
  refine wp_loop_rounds 1 ?_
  rw [rounds_succ]
  go_wp2
  go_ret
  exact ⟨_, rfl, ⟨.inr ⟨_, 0, 0, rfl, fun i hi => absurd hi (by omega)⟩, fun i hi => absurd hi (by omega)⟩, (Below.refl _ _).alloc (Nat.le_refl _) _⟩

theorem probeB_any (v : Value) (n : Nat) (bid : Nat → List UInt8) (tv : Nat → Value) (w : World) (hn : n ≤ 4096) (h : BasesV w v n bid tv) :
    Calls Trym.prog 24 #[v] w fun e w' => ∃ v', e = .returned v' ∧ IdsV w' v' n bid ∧ Below w.heap.size w w' := by
  obtain ⟨⟨rfl, rfl⟩ | ⟨b, off, cap, rfl, hr⟩, hl⟩ := h
  · exact probeB_nil bid w
  · exact probeB_some b off n cap bid tv w hn hl hr

end Go.Proofs.Qxb6601415aMods
