import Derived.Test.Qxb6601415aModsZ3
namespace Go.Proofs.Qxb6601415aMods
open Go.RowKit Go.Extern.Stop Go.Maps Go.ChangeMaps
set_option linter.unusedVariables false
set_option linter.unusedSimpArgs false
set_option maxRecDepth 20000
attribute [local irreducible] Lex

theorem StartB.kpm {w w' : World} {n : Nat} {ids : Nat → List UInt8} {bv : Value} {B g : Nat} {F : List UInt8 → Option Value} {K : List (List UInt8)} (h : StartB w n ids bv B) (hk : KpB w w' [g]) (hm : MapV w g F K) : StartB w' n ids bv B := by
  rcases h with h | ⟨gs, h1, h2, h3, h4⟩
  · exact .inl h
  · have hne : gs ∉ [g] := by simp; exact h3.ne_map hm
    obtain ⟨Fx, hFx⟩ := h3
    exact .inr ⟨gs, h1, h2, ⟨Fx, hFx.of_block (hk.block gs hFx.lt hne)⟩, fun i hi => hk.range (h4 i hi) hne⟩
theorem WB.setCell {w : World} {g : Nat} {e : TypeId} {m : Nat} (h : WB w g e m) (o : Nat) (v : Value) : WB (w.setCell ⟨g, o, none⟩ v) g e m := h.setCells o [v]
theorem WB.cell {w : World} {g : Nat} {e : TypeId} {m : Nat} (h : WB w g e m) {i : Nat} (hi : i < m) : ∃ v, w.cell? ⟨g, i, none⟩ = some v := by
  obtain ⟨F, hF⟩ := h
  exact ⟨_, hF.cell hi⟩
theorem WB.frozen {w : World} {g : Nat} {e : TypeId} {m : Nat} (h : WB w g e m) (i : Nat) : w.frozen? ⟨g, i, none⟩ = false := by
  obtain ⟨F, hF⟩ := h
  exact hF.frozen i
theorem WB.kp {w w' : World} {g : Nat} {e : TypeId} {m : Nat} {S : List Nat} (h : WB w g e m) (hk : KpB w w' S) (hg : g ∉ S) : WB w' g e m := by
  obtain ⟨F, hF⟩ := h
  exact ⟨F, hF.of_block (hk.block g hF.lt hg)⟩

theorem gath_len_from {T : List UInt8 → List Tr} (hT : ∀ x, (T x).length ≤ 4096) : ∀ (l : List (List UInt8)) (acc : List (List UInt8) × List Tr), (l.foldl (gstep T) acc).2.length ≤ acc.2.length + l.length * 4096
  | [], acc => by simp
  | x :: r, acc => by
    rw [List.foldl_cons]
    refine Nat.le_trans (gath_len_from hT r _) ?_
    have h1 : (gstep T acc x).2.length ≤ acc.2.length + 4096 := by
      unfold gstep
      split
      · omega
      · have := hT x
        simp; omega
    simp only [List.length_cons]
    omega
theorem T0_len {bid : Nat → List UInt8} {nb : Nat} {tn : Nat → Nat} (tt : Nat → Nat → Tr) (htn : ∀ i, i < nb → tn i ≤ 4096) (x : List UInt8) : (T0 bid nb tn tt x).length ≤ 4096 := by
  unfold T0
  cases hq : findId bid x nb with
  | none => simp
  | some i => simp; exact htn i (findId_lt hq).1
theorem Rof_len {bid : Nat → List UInt8} {nb : Nat} {tn : Nat → Nat} (tt : Nat → Nat → Tr) (htn : ∀ i, i < nb → tn i ≤ 4096) (wid : Nat → List UInt8) (wn : Nat → Int) (nw : Nat) (ids : Nat → List UInt8) {n : Nat} (hn : n ≤ 4096) : (Rof bid nb tn tt wid wn nw ids n).length ≤ 4096 * 4096 := by
  have h1 := gath_len_from (T0_len (bid := bid) tt htn) (L1of bid nb wid wn nw ids n) ([], [])
  have h2 : (L1of bid nb wid wn nw ids n).length ≤ n := Nat.le_trans (List.length_filter_le _ _) (by simp [idl])
  have h3 : (L1of bid nb wid wn nw ids n).length * 4096 ≤ 4096 * 4096 := Nat.mul_le_mul_right _ (by omega)
  have h4 : (([], []) : List (List UInt8) × List Tr).2.length = 0 := rfl
  rw [h4] at h1
  show (List.foldl (gstep (T0 bid nb tn tt)) ([], []) (L1of bid nb wid wn nw ids n)).2.length ≤ _
  omega

/-- The trees handed back so far. -/
def Bt (w : World) (k g : Nat) (btv : Nat → Value) (tv : Nat → Value) (tn : Nat → Nat) (tt : Nat → Nat → Tr) (p : Nat → Bool) : Prop :=
  ∀ i, i < k → w.cell? ⟨g, i, none⟩ = some (btv i) ∧ (p i = true → TreesV w (btv i) (tn i) (tt i) ∧ NilAs (btv i) (tv i)) ∧ (p i = false → btv i = nilS) ∧ Fresh (btv i) (g + 1)
theorem Bt.kp {w w' : World} {k g : Nat} {btv tv : Nat → Value} {tn : Nat → Nat} {tt : Nat → Nat → Tr} {p : Nat → Bool} {S : List Nat} (h : Bt w k g btv tv tn tt p) (hk : KpB w w' S) (hg : g ∉ S) (hS : ∀ x ∈ S, x < g + 1) : Bt w' k g btv tv tn tt p := fun i hi =>
  ⟨hk.cell (h i hi).1 hg, fun hp => ⟨((h i hi).2.1 hp).1.kp hk (NotIn.of_fresh (h i hi).2.2.2 hS), ((h i hi).2.1 hp).2⟩, (h i hi).2.2⟩
theorem Bt.snoc {w : World} {k g : Nat} {btv tv : Nat → Value} {tn : Nat → Nat} {tt : Nat → Nat → Tr} {p : Nat → Bool} {v u : Value} (h : Bt w k g btv tv tn tt p) (hc : w.cell? ⟨g, k, none⟩ = some u) (h1 : p k = true → TreesV w v (tn k) (tt k) ∧ NilAs v (tv k)) (h2 : p k = false → v = nilS) (hf : Fresh v (g + 1)) :
    Bt (w.setCells g k [v]) (k + 1) g (fun i => if i = k then v else btv i) tv tn tt p := fun i hi => by
  have hkp : KpB w (w.setCells g k [v]) [g] := KpB.setCells (by simp)
  by_cases e : i = k
  · subst e
    simp only [if_pos]
    exact ⟨World.cell?_setCell_same w _ v hc, fun hp => ⟨(h1 hp).1.kp hkp (NotIn.of_fresh hf (by simp)), (h1 hp).2⟩, h2, hf⟩
  · simp only [if_neg e]
    obtain ⟨a1, a2, a3, a4⟩ := h i (by omega)
    exact ⟨(World.cell?_setCell_other w ⟨g, k, none⟩ ⟨g, i, none⟩ v (fun h => e (Addr.mk.inj h).2.1.symm)).trans a1, fun hp => ⟨(a2 hp).1.kp hkp (NotIn.of_fresh a4 (by simp)), (a2 hp).2⟩, a3, a4⟩

set_option maxHeartbeats 16000000 in
theorem zz_any (vb vi vw vpb vpi : Value) (nb n nw np : Nat) (bid ids : Nat → List UInt8) (tv : Nat → Value) (tn : Nat → Nat) (tt : Nat → Nat → Tr) (wid : Nat → List UInt8) (wn : Nat → Int) (pid : Nat → List UInt8) (w : World) (hnb : nb ≤ 4096) (hn : n ≤ 4096) (hnw : nw ≤ 4096) (hnp : np ≤ 10000)
    (hb : BasesV w vb nb bid tv) (hts : ∀ i, i < nb → TreesV w (tv i) (tn i) (tt i)) (htn : ∀ i, i < nb → tn i ≤ 4096) (hi : IdsV w vi n ids) (hw : WaitsV w vw nw wid wn) (hpb : IdsV w vpb nb bid) (hpi : IdsV w vpi np pid) (hab : Apart bid nb) (haw : Apart wid nw) :
    Calls Trym.prog 26 #[vb, vi, vw, vpb, vpi] w fun e w' => ∃ got ba bi bt bl wi wN wl, e = .returned (.tuple #[got, ba, bi, bt, bl, wi, wN, wl]) ∧ ZZ bid nb tv tn tt wid wn nw ids n vi pid np w' got ba bi bt bl wi wN wl ∧ Below w.heap.size w w' := by
  obtain ⟨ab, cb, rfl, hbo⟩ := hb.1.open
  obtain ⟨aw, cw, rfl, hwo⟩ := hw.1.open
  obtain ⟨ai, ci, rfl, hio⟩ := hi.1.open
  obtain ⟨apb, cpb, rfl, hpbo⟩ := hpb.1.open
  obtain ⟨api, cpi, rfl, hpio⟩ := hpi.1.open
  have HI := hide hi
  have HR := hide (And.intro hbo (And.intro hb.2 (And.intro hts (And.intro htn (And.intro hwo (And.intro hw.2 (And.intro hab haw)))))))
  have HP := hide (And.intro hpbo (And.intro hpio hpi.2))
  clear hio hbo hb hts htn hwo hw hab haw hpbo hpio hpb hpi
  have hm80 := make_map (T := 80) Trym.underlying80 nb
  have hb83 := build83
  have hm81 := make_map (T := 81) Trym.underlying81 nw
  clear hi
  go_enter Trym.func26, Trym.ntmps26
  go_upto_region 1 with fail
  go_cut [18] from 35 to 44 (fun o wx => ∃ ob gB gW bv, Made w n ids (.slice ai n ci) o wx ob gB gW bv)
  case first =>
    go_region_held3 (fun w' => True) (trivial) (first
      | (go_at_call 31; refine (idsIn_any _ n ids _ hn (by first | exact HI.out.below (Below.refl _ _).drew (Nat.le_refl _) | exact HI.out.below ((Below.refl _ _).drew.alloc (Nat.le_refl _) _) (Nat.le_refl _) | exact HI.out.below (((Below.refl _ _).drew.alloc (Nat.le_refl _) _).alloc (by simp) _) (Nat.le_refl _))).mono ?_; rintro e w1 ⟨bv, rfl, hst, hnil, hB1⟩; obtain ⟨ax, cx, rfl⟩ := hst.form))
    · go_wp2
      go_meet
      case rel =>
        obtain ⟨a1, a2, a3, a4, a5, a6⟩ := made1 hB1 hst hnil
        have := made_box a1 a2 a3 a4 hnil (Nat.le_refl _) a5 a6
        simp only [World.size_alloc] at this
        exact ⟨_, _, _, _, this⟩
    · go_wp2
      go_meet
      case rel =>
        obtain ⟨a1, a2, a4, a6⟩ := made2 hB1 hst hnil
        exact ⟨_, _, _, _, made_box a1 a2 (by omega) a4 hnil (by omega) (by omega) a6⟩
    · go_wp2
      go_meet
      case rel =>
        obtain ⟨a1, a2, a4, a5, a6⟩ := made3 hB1 hst hnil
        have := made_box a1 a2 (by omega) a4 hnil (by omega) (by omega) a6
        simp only [World.size_alloc] at this
        exact ⟨_, _, _, _, this⟩
    · go_wp2
      go_meet
      case rel =>
        obtain ⟨a1, a2, a4, a5, a6⟩ := made3 hB1 hst hnil
        have := made_box a2 a1 (by omega) a4 hnil (by omega) (by omega) a6
        simp only [World.size_alloc] at this
        exact ⟨_, _, _, _, this⟩
    · go_wp2
      go_meet
      case rel =>
        obtain ⟨a1, a2, a4, a6⟩ := made2 hB1 hst hnil
        exact ⟨_, _, _, _, made_box a2 a1 (by omega) a4 hnil (by omega) (by omega) a6⟩
    · go_wp2
      go_meet
      case rel =>
        obtain ⟨a1, a2, a3, a4, a5, a6⟩ := made1 hB1 hst hnil
        have := made_box a2 a1 (Ne.symm a3) a4 hnil a5 (Nat.le_refl _) a6
        simp only [World.size_alloc] at this
        exact ⟨_, _, _, _, this⟩
  case rest =>
    obtain ⟨ob, gB, gW, bv, hM⟩ := hcut
    have hoe := hM.oe
    subst hoe
    have HM := hide hM
    have hobB : ob ≠ gB := Nat.ne_of_gt hM.lt.1
    have hobW : ob ≠ gW := Nat.ne_of_gt hM.lt.2
    clear hM hm80 hm81 hb83
    generalize wc = W0 at *
    go_wp2
    go_loopw [19] (fun i wr => ∃ k : Nat, k ≤ nb ∧ i = .int .i64 k ∧ (∃ tv2 K, MapV wr gB (fun x => (findId bid x k).map tv2) K ∧ K.length ≤ k ∧ Kept wr k (ob + 1) tv2 tv tn tt) ∧ KpB W0 wr [gB]) (fun i _ => nb - (intOf i).toNat)
    case atStart => exact ⟨0, Nat.zero_le _, rfl, ⟨tv, [], HM.out.mB, Nat.le_refl _, fun i hi => absurd hi (by omega)⟩, KpB.refl _ _⟩
    case round =>
      obtain ⟨k, hk, rfl, ⟨tv2, K, hmap, hKl, hkept⟩, hkp⟩ := hrel
      have hbel : Below w.heap.size w wr := HM.out.kept.trans (hkp.below HM.out.kept.size (by simp; exact HM.out.loB))
      by_cases hlt : k < nb
      · obtain ⟨b, off, rfl, hrow⟩ := HR.out.1 k hlt
        have hlx := HR.out.2.1 k hlt
        have hra0 := hrow k hlt
        have hbw : b < w.heap.size := rangeAt_lt hra0 (by simp [ent])
        have hra := rangeAt_below hbel hbw hra0
        have hc0 : wr.cell? ⟨ob, 0, none⟩ = some (.map (some gB)) := hkp.cell HM.out.c0 (by simp [hobB])
        have htk : TreesV wr.drew (tv k) (tn k) (tt k) := (HR.out.2.2.1 k hlt).below hbel.drew (Nat.le_refl _)
        have htnk := HR.out.2.2.2.1 k hlt
        have hobwr : ob < wr.heap.size := World.block_lt_of_cell? wr _ hc0
        have HW := hide (And.intro hmap (And.intro hKl (And.intro hkept (And.intro hkp hbel))))
        clear hmap hKl hkept hkp hbel hra0 hrow
        go_upto_region 5 with fail
        refine wp_region_lex (fun w' => w'.rangeAt b (off + k * 21) (ent (bid k) (tv k)) ∧ w'.cell? ⟨ob, 0, none⟩ = some (.map (some gB))) (by kernel_rfl) (by kernel_rfl) ⟨(World.rangeAt_drew _ _ _ _).2 hra, hc0⟩ ?_
        refine lex_mv (.pointer (some ⟨ob, 0, none⟩)) _ rfl rfl rfl ?_
        simp only [Act.put, List.setIfInBounds_toArray, List.set_cons_zero, List.set_cons_succ]
        refine lex_nilc _ ⟨ob, 0, none⟩ rfl rfl rfl ?_
        simp only [Act.put, List.setIfInBounds_toArray, List.set_cons_zero, List.set_cons_succ]
        refine lex_field 83 _ 0 ob 0 0 _ _ rfl rfl rfl Trym.underlying83 rfl i80 rfl ?_
        simp only [Act.put, List.setIfInBounds_toArray, List.set_cons_zero, List.set_cons_succ]
        refine lex_load1 80 _ ob 0 (.map (some gB)) rfl rfl rfl (fun _ h => h.2) (fun w => Trym.isAgg80 w) ?_
        simp only [Act.put, List.setIfInBounds_toArray, List.set_cons_zero, List.set_cons_succ]
        refine lex_mv (.slice (some ⟨b, off, none⟩) nb cb) _ rfl rfl rfl ?_
        simp only [Act.put, List.setIfInBounds_toArray, List.set_cons_zero, List.set_cons_succ]
        refine lex_mv (.int .i64 (k : Int)) _ rfl rfl rfl ?_
        simp only [Act.put, List.setIfInBounds_toArray, List.set_cons_zero, List.set_cons_succ]
        refine lex_index 39 50 _ _ b off nb cb k 21 rfl rfl rfl rfl hlt Trym.underlying39 i50 ?_
        simp only [Act.put, List.setIfInBounds_toArray, List.set_cons_zero, List.set_cons_succ]
        refine lex_field 50 _ 0 b (off + k * 21) 0 _ _ rfl rfl rfl Trym.underlying50 rfl i34 rfl ?_
        simp only [Act.put, List.setIfInBounds_toArray, List.set_cons_zero, List.set_cons_succ]
        refine lex_load 34 _ b (off + k * 21 + 0) (idc (bid k)) _ rfl rfl rfl (fun _ h => rangeAt_left h.1) Trym.underlying34 rfl (by rw [i34, idc_length, hlx]) ?_
        simp only [Act.put, List.setIfInBounds_toArray, List.set_cons_zero, List.set_cons_succ]
        refine lex_mv (.slice (some ⟨b, off, none⟩) nb cb) _ rfl rfl rfl ?_
        simp only [Act.put, List.setIfInBounds_toArray, List.set_cons_zero, List.set_cons_succ]
        refine lex_mv (.int .i64 (k : Int)) _ rfl rfl rfl ?_
        simp only [Act.put, List.setIfInBounds_toArray, List.set_cons_zero, List.set_cons_succ]
        refine lex_index 39 50 _ _ b off nb cb k 21 rfl rfl rfl rfl hlt Trym.underlying39 i50 ?_
        simp only [Act.put, List.setIfInBounds_toArray, List.set_cons_zero, List.set_cons_succ]
        refine lex_field 50 _ 1 b (off + k * 21) 20 _ _ rfl rfl rfl Trym.underlying50 rfl i49 rfl ?_
        simp only [Act.put, List.setIfInBounds_toArray, List.set_cons_zero, List.set_cons_succ]
        refine lex_load1 49 _ b (off + k * 21 + 20) (tv k) rfl rfl rfl (fun _ h => rangeAt_head (rangeAt_right h.1 (by rw [idc_length, hlx]))) (fun w => Trym.isAgg49 w) ?_
        simp only [Act.put, List.setIfInBounds_toArray, List.set_cons_zero, List.set_cons_succ]
        refine lex_solek (by kernel_rfl) rfl (fun K9 hK9 => ?_)
        go_simp
        refine (treesIn_any (tv k) (tn k) (tt k) wr.drew (by omega) htk).mono ?_
        rintro e w1 ⟨v', rfl, hv', hnv', hfr, hb1⟩
        have hra1 := rangeAt_below hb1 (Nat.lt_of_lt_of_le hbw HW.out.2.2.2.2.size) ((World.rangeAt_drew _ _ _ _).2 hra)
        have hc01 : w1.cell? ⟨ob, 0, none⟩ = some (.map (some gB)) := (hb1.cell (p := ⟨ob, 0, none⟩) hobwr).trans hc0
        refine hK9.out _ _ ⟨hra1, hc01⟩ ?_
        clear hK9
        try simp only [Act.put, List.setIfInBounds_toArray, List.set_cons_zero, List.set_cons_succ]
        have hmap1 : MapV w1 gB (fun x => (findId bid x k).map tv2) K := MapV.next (w := wr.drew) HW.out.1 hb1
        obtain ⟨w2, hup, hmap2, hturn⟩ := hmap1.store (T := 80) Trym.underlying80 (by have := HW.out.2.1; omega) hlx v'
        rw [find_step HR.out.2.2.2.2.2.2.1 hlt] at hmap2
        have hk2 : KpB w1 w2 [gB] := KpB.turned hturn (by simp)
        have hS2 := And.intro (hk2.range hra1 (by simp; intro e; have := HM.out.loB; omega)) (hk2.cell hc01 (by simp [hobB]))
        have hkp2 : KpB W0 w2 [gB] := (HW.out.2.2.2.1.drew.trans (KpB.of_below hb1)).trans hk2
        have hkept2 : Kept w2 (k + 1) (ob + 1) (fun i => if i = k then v' else tv2 i) tv tn tt := fun i hi => by
          have hS : ∀ x ∈ [gB], x < ob + 1 := by simp; have := HM.out.lt.1; omega
          by_cases h9 : i = k
          · subst h9
            simp only [if_pos]
            have hf9 : Fresh v' (ob + 1) := hfr.mono hobwr
            exact ⟨hv'.kp hk2 (NotIn.of_fresh hf9 hS), hnv', hf9⟩
          · simp only [if_neg h9]
            exact ((HW.out.2.2.1.below (w' := w1) (D := wr.heap.size) ((Below.refl _ _).drew.trans hb1) (Nat.le_refl _)).kp hk2 hS) i (by omega)
        have HN := hide (And.intro hmap2 (And.intro hkp2 hkept2))
        have HUP := hide hup
        clear hmap2 hkp2 hkept2 hup hk2 hturn hmap1 hra1 hc01
        refine lex_mapup 80 _ _ _ (.map (some gB)) (.agg (idc (bid k)).toArray) v' w2 (by kernel_rfl) rfl rfl rfl rfl rfl HUP.out hS2 ?_
        simp only [Act.put, List.setIfInBounds_toArray, List.set_cons_zero, List.set_cons_succ]
        refine lex_nil (NoPanic.normal ?_)
        clear HUP hS2 hra hc0
        go_wp2
        go_roundw
        case rel => exact ⟨k + 1, by omega, by go_num, ⟨_, _, HN.out.1, Nat.le_trans (addK_le _ _) (by have := HW.out.2.1; omega), HN.out.2.2⟩, HN.out.2.1⟩
        case measure => simp [intOf]; omega
      · have hkn : nb = k := by omega
        subst hkn
        have H1 := hide (And.intro hmap (And.intro hkept hkp))
        clear hmap hkept hkp hKl hbel hlt hk
        generalize wr = W1 at *
        have hkpc : KpB W0 W1 [gB] := H1.out.2.2
        have hmW1 : MapV W1 gW (fun _ => none) [] := hkpc.map HM.out.mW (by simp; exact Ne.symm HM.out.ne)
        have HW1 := hide hmW1
        clear hmW1 hkpc
        go_wp2
        go_loopw [20] (fun i wr => ∃ k : Nat, k ≤ nw ∧ i = .int .i64 k ∧ MapI wr gW (fun x => (findId wid x k).map wn) k ∧ KpB W1 wr [gW]) (fun i _ => nw - (intOf i).toNat)
        case atStart => exact ⟨0, Nat.zero_le _, rfl, ⟨[], HW1.out, Nat.le_refl _⟩, KpB.refl _ _⟩
        case round =>
          obtain ⟨k, hk, rfl, ⟨K2, hmap, hKl⟩, hkp⟩ := hrel
          have hbel : Below w.heap.size w wr := (HM.out.kept.trans (H1.out.2.2.below HM.out.kept.size (by simp; exact HM.out.loB))).trans (hkp.below (Nat.le_trans HM.out.kept.size H1.out.2.2.size) (by simp; exact HM.out.loW))
          by_cases hlt : k < nw
          · obtain ⟨b, off, rfl, hrow⟩ := HR.out.2.2.2.2.1 k hlt
            have hlx := HR.out.2.2.2.2.2.1 k hlt
            have hra0 := hrow k hlt
            have hbw : b < w.heap.size := rangeAt_lt hra0 (by simp [ent])
            have hra := rangeAt_below hbel hbw hra0
            have hc2 : wr.cell? ⟨ob, 2, none⟩ = some (.map (some gW)) := hkp.cell (H1.out.2.2.cell HM.out.c2 (by simp [hobB])) (by simp [hobW])
            have hmapd : MapV wr.drew gW (intF (fun x => (findId wid x k).map wn)) K2 := hmap
            obtain ⟨w2, hup, hmap2, hturn⟩ := hmapd.store (T := 81) Trym.underlying81 (by omega) hlx (.int .i64 (wn k))
            rw [find_stepI HR.out.2.2.2.2.2.2.2 hlt] at hmap2
            have hk2 : KpB wr.drew w2 [gW] := KpB.turned hturn (by simp)
            have hS2 := And.intro (hk2.range (w := wr.drew) hra (by simp; intro e; have := HM.out.loW; omega)) (hk2.cell (w := wr.drew) hc2 (by simp [hobW]))
            have hkp2 : KpB W1 w2 [gW] := hkp.drew.trans hk2
            have HN := hide (And.intro hmap2 (And.intro hkp2 hKl))
            have HUP := hide hup
            clear hmap2 hkp2 hup hk2 hturn hmap hmapd hkp hbel hra0 hrow hKl
            go_upto_region 9 with fail
            refine wp_region_lex (fun w' => w'.rangeAt b (off + k * 21) (ent (wid k) (.int .i64 (wn k))) ∧ w'.cell? ⟨ob, 2, none⟩ = some (.map (some gW))) (by kernel_rfl) (by kernel_rfl) ⟨(World.rangeAt_drew _ _ _ _).2 hra, hc2⟩ ?_
            refine lex_mv (.pointer (some ⟨ob, 0, none⟩)) _ rfl rfl rfl ?_
            simp only [Act.put, List.setIfInBounds_toArray, List.set_cons_zero, List.set_cons_succ]
            refine lex_nilc _ ⟨ob, 0, none⟩ rfl rfl rfl ?_
            simp only [Act.put, List.setIfInBounds_toArray, List.set_cons_zero, List.set_cons_succ]
            refine lex_field 83 _ 2 ob 0 2 _ _ rfl rfl rfl Trym.underlying83 rfl i81 rfl ?_
            simp only [Act.put, List.setIfInBounds_toArray, List.set_cons_zero, List.set_cons_succ]
            refine lex_load1 81 _ ob 2 (.map (some gW)) rfl rfl rfl (fun _ h => h.2) (fun w => Trym.isAgg81 w) ?_
            simp only [Act.put, List.setIfInBounds_toArray, List.set_cons_zero, List.set_cons_succ]
            refine lex_mv (.slice (some ⟨b, off, none⟩) nw cw) _ rfl rfl rfl ?_
            simp only [Act.put, List.setIfInBounds_toArray, List.set_cons_zero, List.set_cons_succ]
            refine lex_mv (.int .i64 (k : Int)) _ rfl rfl rfl ?_
            simp only [Act.put, List.setIfInBounds_toArray, List.set_cons_zero, List.set_cons_succ]
            refine lex_index 40 77 _ _ b off nw cw k 21 rfl rfl rfl rfl hlt Trym.underlying40 i77 ?_
            simp only [Act.put, List.setIfInBounds_toArray, List.set_cons_zero, List.set_cons_succ]
            refine lex_field 77 _ 0 b (off + k * 21) 0 _ _ rfl rfl rfl Trym.underlying77 rfl i34 rfl ?_
            simp only [Act.put, List.setIfInBounds_toArray, List.set_cons_zero, List.set_cons_succ]
            refine lex_load 34 _ b (off + k * 21 + 0) (idc (wid k)) _ rfl rfl rfl (fun _ h => rangeAt_left h.1) Trym.underlying34 rfl (by rw [i34, idc_length, hlx]) ?_
            simp only [Act.put, List.setIfInBounds_toArray, List.set_cons_zero, List.set_cons_succ]
            refine lex_mv (.slice (some ⟨b, off, none⟩) nw cw) _ rfl rfl rfl ?_
            simp only [Act.put, List.setIfInBounds_toArray, List.set_cons_zero, List.set_cons_succ]
            refine lex_mv (.int .i64 (k : Int)) _ rfl rfl rfl ?_
            simp only [Act.put, List.setIfInBounds_toArray, List.set_cons_zero, List.set_cons_succ]
            refine lex_index 40 77 _ _ b off nw cw k 21 rfl rfl rfl rfl hlt Trym.underlying40 i77 ?_
            simp only [Act.put, List.setIfInBounds_toArray, List.set_cons_zero, List.set_cons_succ]
            refine lex_field 77 _ 1 b (off + k * 21) 20 _ _ rfl rfl rfl Trym.underlying77 rfl i3 rfl ?_
            simp only [Act.put, List.setIfInBounds_toArray, List.set_cons_zero, List.set_cons_succ]
            refine lex_load1 3 _ b (off + k * 21 + 20) (.int .i64 (wn k)) rfl rfl rfl (fun _ h => rangeAt_head (rangeAt_right h.1 (by rw [idc_length, hlx]))) (fun w => Trym.isAgg3 w) ?_
            simp only [Act.put, List.setIfInBounds_toArray, List.set_cons_zero, List.set_cons_succ]
            refine lex_mapup 81 _ _ _ (.map (some gW)) (.agg (idc (wid k)).toArray) (.int .i64 (wn k)) w2 (by kernel_rfl) rfl rfl rfl rfl rfl HUP.out hS2 ?_
            simp only [Act.put, List.setIfInBounds_toArray, List.set_cons_zero, List.set_cons_succ]
            refine lex_nil (NoPanic.normal ?_)
            clear HUP hS2 hra hc2
            go_wp2
            go_roundw
            case rel => exact ⟨k + 1, by omega, by go_num, ⟨_, HN.out.1, Nat.le_trans (addK_le _ _) (by have := HN.out.2.2; omega)⟩, HN.out.2.1⟩
            case measure => simp [intOf]; omega
          · have hkn : nw = k := by omega
            subst hkn
            clear hlt hk hbel
            obtain ⟨tv2, K1, hm1, hkept, hkp1⟩ : ∃ tv2 K1, MapV W1 gB (fun x => (findId bid x nb).map tv2) K1 ∧ Kept W1 nb (ob + 1) tv2 tv tn tt ∧ KpB W0 W1 [gB] := ⟨_, _, H1.out.1, H1.out.2.1, H1.out.2.2⟩
            clear H1 HW1
            have hgBW : gB ∉ [gW] := by simp; exact HM.out.ne
            have hm2 : MapV wr gB (fun x => (findId bid x nb).map tv2) K1 := hkp.map hm1 hgBW
            have hkept2 : Kept wr nb (ob + 1) tv2 tv tn tt := hkept.kp hkp (by simp; have := HM.out.lt.2; omega)
            have hobW1 : ob < W1.heap.size := Nat.lt_of_lt_of_le (World.block_lt_of_cell? W0 _ HM.out.c0) hkp1.size
            have hblk : wr.heap[ob]? = W0.heap[ob]? := (hkp.block ob hobW1 (by simp [hobW])).trans (hkp1.block ob (World.block_lt_of_cell? W0 _ HM.out.c0) (by simp [hobB]))
            have hc0 : wr.cell? ⟨ob, 0, none⟩ = some (.map (some gB)) := (World.cell?_of_block (a := ⟨ob, 0, none⟩) hblk).trans HM.out.c0
            have hc1 : wr.cell? ⟨ob, 1, none⟩ = some bv := (World.cell?_of_block (a := ⟨ob, 1, none⟩) hblk).trans HM.out.c1
            have hc2 : wr.cell? ⟨ob, 2, none⟩ = some (.map (some gW)) := (World.cell?_of_block (a := ⟨ob, 2, none⟩) hblk).trans HM.out.c2
            have hf1 : wr.frozen? ⟨ob, 1, none⟩ = false := (World.frozen?_of_block (a := ⟨ob, 1, none⟩) hblk).trans HM.out.f1
            have hW1m : MapV W1 gW (fun _ => none) [] := hkp1.map HM.out.mW (by simp; exact Ne.symm HM.out.ne)
            have hst := (HM.out.st.kpm hkp1 HM.out.mB).kpm hkp hW1m
            have hbelr : Below w.heap.size w wr := (HM.out.kept.trans (hkp1.below HM.out.kept.size (by simp; exact HM.out.loB))).trans (hkp.below (Nat.le_trans HM.out.kept.size hkp1.size) (by simp; exact HM.out.loW))
            have hstr := stranded_any ob gB gW (fun x => (findId bid x nb).map tv2) (T0 bid nb tn tt) (G0 wid wn nw) nw n ids bv wr hn (by omega) hc0 hc1 hf1 hc2 HM.out.ne ⟨K1, hm2⟩ ⟨K2, hmap, hKl⟩ HI.out.2
              (by
                rcases hst with h | ⟨gs, h1, h2, h3, h4⟩
                · exact .inl h
                · exact .inr ⟨gs, Nat.ne_of_lt (HM.out.ltb gs (by rw [h2]; rfl)), h2, h3, h4⟩)
              (fun x hx t9 ht9 => by
                cases hq : findId bid x nb with
                | none => rw [hq] at ht9; cases ht9
                | some i =>
                  rw [hq] at ht9
                  have e : tv2 i = t9 := by simpa using ht9
                  have hil := (findId_lt hq).1
                  have hT : T0 bid nb tn tt x = (List.range (tn i)).map (tt i) := by unfold T0; rw [hq]
                  rw [hT, ← e, List.length_map, List.length_range]
                  exact ⟨(hkept2 i hil).1.congr (fun j hj => (trl_range (tt i) hj).symm), HR.out.2.2.2.1 i hil⟩)
            have HS := hide hstr
            have H2 := hide (And.intro hkept2 (And.intro hbelr hblk))
            clear hstr hkept2 hbelr hblk hc0 hc1 hc2 hf1 hW1m hst hm2 hm1 hkept hkp1 hkp hgBW hmap hKl
            generalize wr = W2 at *
            go_upto_region 10 with fail
            refine wp_region_lexp (fun w' => True) trivial ?_
            refine lex_mv (.pointer (some ⟨ob, 0, none⟩)) _ rfl rfl rfl ?_
            simp only [Act.put, List.setIfInBounds_toArray, List.set_cons_zero, List.set_cons_succ]
            refine lex_solek rfl rfl (fun K hK => ?_)
            go_simp
            refine HS.out.mono ?_
            rintro e W3 ⟨v3, bv3, rfl, hS3⟩
            refine hK.out _ _ trivial ?_
            clear hK HS
            try simp only [Act.put, List.setIfInBounds_toArray, List.set_cons_zero, List.set_cons_succ]
            have hkS : ∀ y ∈ (gB :: gW :: ob :: bv.ownBlock.toList), w.heap.size ≤ y ∧ y < ob + 1 := fun y hy => by
              have h1 := HM.out.lt
              have h2 := HM.out.loB
              have h3 := HM.out.loW
              have h4 : w.heap.size ≤ ob := by omega
              rcases List.mem_cons.1 hy with rfl | hy
              · omega
              rcases List.mem_cons.1 hy with rfl | hy
              · omega
              rcases List.mem_cons.1 hy with rfl | hy
              · omega
              cases hbo : bv.ownBlock with
              | none => rw [hbo] at hy; simp at hy
              | some g =>
                rw [hbo] at hy
                simp at hy
                subst hy
                have h5 := HM.out.ltb y hbo
                rcases HM.out.st with ⟨h6, _⟩ | ⟨gs, h6, h7, _⟩
                · rw [h6] at hbo; simp [Value.ownBlock] at hbo
                · rw [h7] at hbo; simp [Value.ownBlock] at hbo; omega
            have hkept3 : Kept W3 nb (ob + 1) tv2 tv tn tt := H2.out.1.kp hS3.kept (fun y hy => (hkS y hy).2)
            have hbel3 : Below w.heap.size w W3 := H2.out.2.1.trans (hS3.kept.below H2.out.2.1.size (fun y hy => (hkS y hy).1))
            have hsz : w.heap.size ≤ W3.heap.size := hbel3.size
            have hs0 := hS3.trees
            have hs1 := hS3.nil
            have hs2 := hS3.ids'
            have hs3 := hS3.mapB
            have hs4 := hS3.mapW
            rw [sel_eq] at hs0 hs1 hs2 hs3 hs4
            have hR0 : (gath (T0 bid nb tn tt) ((idl ids n).filter (selP bid nb wid wn nw))).2 = Rof bid nb tn tt wid wn nw ids n := rfl
            have hD0 : (gath (T0 bid nb tn tt) ((idl ids n).filter (selP bid nb wid wn nw))).1 = (gath (T0 bid nb tn tt) (L1of bid nb wid wn nw ids n)).1 := rfl
            rw [hR0] at hs0 hs1 hs4
            rw [hD0] at hs2 hs3
            simp only [without_some] at hs2
            have HQ := hide (And.intro hs0 (And.intro hs1 (And.intro hs2 (And.intro hs3 (And.intro hs4 (And.intro hkept3 hbel3))))))
            have HC3 := hide (And.intro hS3.c0 (And.intro hS3.c1 (And.intro hS3.c2 hS3.nilB)))
            clear hs0 hs1 hs2 hs3 hs4 hR0 hD0 hkept3 hbel3 hS3 H2 hkS
            have hRl := Rof_len (bid := bid) tt HR.out.2.2.2.1 wid wn nw ids hn
            have HRL := hide hRl
            refine lex_solek rfl rfl (fun K hK => ?_)
            have htro := treesOut_any v3 _ _ W3 (by have := HRL.out; omega) HQ.out.1
            have HTRO := hide htro
            clear htro hRl
            go_simp
            refine HTRO.out.mono ?_
            rintro e W4 ⟨got, rfl, hg1, hg2, _, hB4⟩
            refine hK.out _ _ trivial ?_
            clear hK HTRO
            try simp only [Act.put, List.setIfInBounds_toArray, List.set_cons_zero, List.set_cons_succ]
            refine lex_as got _ rfl rfl rfl ?_
            simp only [Act.put, List.setIfInBounds_toArray, List.set_cons_zero, List.set_cons_succ]
            refine lex_nil (NoPanic.normal ?_)
            have hob3 : ob < W3.heap.size := World.block_lt_of_cell? W3 _ HC3.out.1
            have hc14 : W4.cell? ⟨ob, 1, none⟩ = some bv3 := (hB4.cell (p := ⟨ob, 1, none⟩) hob3).trans HC3.out.2.1
            have HG := hide (And.intro hg1 (And.intro hg2 hB4))
            clear hg1 hg2 hB4
            go_upto_region 11 with fail
            refine wp_region_lexp (fun w' => True) trivial ?_
            refine lex_mv (.pointer (some ⟨ob, 0, none⟩)) _ rfl rfl rfl ?_
            simp only [Act.put, List.setIfInBounds_toArray, List.set_cons_zero, List.set_cons_succ]
            refine lex_nilc _ ⟨ob, 0, none⟩ rfl rfl rfl ?_
            simp only [Act.put, List.setIfInBounds_toArray, List.set_cons_zero, List.set_cons_succ]
            refine lex_field 83 _ 1 ob 0 1 _ _ rfl rfl rfl Trym.underlying83 rfl i68 rfl ?_
            simp only [Act.put, List.setIfInBounds_toArray, List.set_cons_zero, List.set_cons_succ]
            refine lex_load1x 68 _ ob 1 bv3 rfl rfl rfl rfl hc14 (fun w => Trym.isAgg68 w) trivial ?_
            simp only [Act.put, List.setIfInBounds_toArray, List.set_cons_zero, List.set_cons_succ]
            refine lex_solek rfl rfl (fun K hK => ?_)
            have hl3 : ((idl ids n).filter (inB bid nb wid wn nw ids n)).length ≤ 4096 := Nat.le_trans (List.length_filter_le _ _) (by simp [idl]; exact hn)
            have hido := idsOut_any bv3 _ _ W4 hl3 (HQ.out.2.2.1.below HG.out.2.2 (Nat.le_refl _))
            have HIDO := hide hido
            clear hido hl3
            go_simp
            refine HIDO.out.mono ?_
            rintro e W5 ⟨ba5, rfl, hi1, hi2, _, hB5⟩
            refine hK.out _ _ trivial ?_
            clear hK HIDO hc14
            try simp only [Act.put, List.setIfInBounds_toArray, List.set_cons_zero, List.set_cons_succ]
            refine lex_as ba5 _ rfl rfl rfl ?_
            simp only [Act.put, List.setIfInBounds_toArray, List.set_cons_zero, List.set_cons_succ]
            refine lex_nil (NoPanic.normal ?_)
            have hB35 : Below W3.heap.size W3 W5 := HG.out.2.2.trans (hB5.mono HG.out.2.2.size)
            have hgot5 : TreesV W5 got (Rof bid nb tn tt wid wn nw ids n).length (trl (Rof bid nb tn tt wid wn nw ids n)) := HG.out.1.below hB5 (Nat.le_refl _)
            have hgn : got = nilS ↔ Rof bid nb tn tt wid wn nw ids n = [] := Iff.trans HG.out.2.1 HQ.out.2.1
            have hban : NilAs ba5 (.slice ai n ci) := Iff.trans hi2 (Iff.trans HC3.out.2.2.2 HM.out.nilb)
            obtain ⟨KB5, hmB5⟩ := HQ.out.2.2.2.1
            obtain ⟨KW5, hmW5, _⟩ := HQ.out.2.2.2.2.1
            have hmB5 := hmB5.next hB35
            have hmW5 := hmW5.next hB35
            have hk5 : Kept W5 nb (ob + 1) tv2 tv tn tt := HQ.out.2.2.2.2.2.1.below hB35 (Nat.le_refl _)
            have hbel5 : Below w.heap.size w W5 := HQ.out.2.2.2.2.2.2.trans (hB35.mono HQ.out.2.2.2.2.2.2.size)
            have hc05 : W5.cell? ⟨ob, 0, none⟩ = some (.map (some gB)) := (hB35.cell (p := ⟨ob, 0, none⟩) hob3).trans HC3.out.1
            have hc25 : W5.cell? ⟨ob, 2, none⟩ = some (.map (some gW)) := (hB35.cell (p := ⟨ob, 2, none⟩) hob3).trans HC3.out.2.2.1
            have H5 := hide (And.intro hgot5 (And.intro hgn (And.intro hi1 (And.intro hban (And.intro hk5 (And.intro hbel5 (And.intro hmB5 hmW5)))))))
            have HC5 := hide (And.intro hc05 hc25)
            clear hgot5 hgn hi1 hi2 hban hk5 hbel5 hmB5 hmW5 hc05 hc25 hB35 hB5 HG HQ HC3 hob3 hsz
            obtain ⟨C1, hC1, hmk1⟩ := make_wide Trym.underlying46 f4 (by omega) nb (by omega)
            obtain ⟨C2, hC2, hmk2⟩ := make_wide Trym.underlying54 f49 (by omega) nb (by omega)
            have HCC := hide (And.intro hC1 hC2)
            clear hC1 hC2
            go_wp2
            clear hmk1 hmk2
            have hwbA1 : WB ((W5.alloc (.cells C1 4)).alloc (.cells C2 49)) W5.heap.size 4 nb := (WB_new W5 C1 4 (by rw [HCC.out.1]; omega)).alloc _
            have hwbA2 : WB ((W5.alloc (.cells C1 4)).alloc (.cells C2 49)) (W5.heap.size + 1) 49 nb := by
              have := WB_new (W5.alloc (.cells C1 4)) C2 49 (m := nb) (by rw [HCC.out.2]; omega)
              rw [World.size_alloc] at this
              exact this
            have hkA : KpB W5 ((W5.alloc (.cells C1 4)).alloc (.cells C2 49)) [] := (KpB.alloc _ _ _).trans (KpB.alloc _ _ _)
            have hlo : w.heap.size ≤ W5.heap.size := H5.out.2.2.2.2.2.1.size
            have hob5 : ob < W5.heap.size := World.block_lt_of_cell? W5 _ HC5.out.1
            have hgB5 : gB < W5.heap.size := H5.out.2.2.2.2.2.2.1.lt
            have hgW5 : gW < W5.heap.size := H5.out.2.2.2.2.2.2.2.lt
            generalize (W5.alloc (.cells C1 4)).alloc (.cells C2 49) = A5 at *
            generalize hg1 : W5.heap.size = g1 at *
            have HA := hide (And.intro hwbA1 (And.intro hwbA2 hkA))
            clear hwbA1 hwbA2 hkA HCC
            go_loopw [25] (fun i wr => ∃ k : Nat, k ≤ nb ∧ i = .int .i64 k ∧ WB wr g1 4 nb ∧ WB wr (g1 + 1) 49 nb ∧ (∀ i, i < k → wr.cell? ⟨g1, i, none⟩ = some (.bool (inB bid nb wid wn nw ids n (bid i)))) ∧ (∃ btv, Bt wr k (g1 + 1) btv tv tn tt (fun i => inB bid nb wid wn nw ids n (bid i))) ∧ KpB A5 wr [g1, g1 + 1]) (fun i _ => nb - (intOf i).toNat)
            case atStart => exact ⟨0, Nat.zero_le _, rfl, HA.out.1, HA.out.2.1, fun i hi => absurd hi (by omega), ⟨tv, fun i hi => absurd hi (by omega)⟩, KpB.refl _ _⟩
            case round =>
              obtain ⟨k, hk, rfl, hwb1, hwb2, hbis, ⟨btv, hbt⟩, hkp⟩ := hrel
              by_cases hlt : k < nb
              · obtain ⟨b, off, rfl, hrow⟩ := HP.out.1 k hlt
                have hlx := HR.out.2.1 k hlt
                have hkp5 : KpB W5 wr [g1, g1 + 1] := (HA.out.2.2.mono (by simp)).trans hkp
                have hra0 := hrow k hlt
                have hbw : b < w.heap.size := rangeAt_lt hra0 (by rw [idc_length, hlx]; omega)
                have hra : wr.rangeAt b (off + k * 20) (idc (bid k)) := hkp5.range (rangeAt_below H5.out.2.2.2.2.2.1 hbw hra0) (by simp; omega)
                have hc0 : wr.cell? ⟨ob, 0, none⟩ = some (.map (some gB)) := hkp5.cell HC5.out.1 (by simp; omega)
                have hmapr : MapV wr.drew gB (without (fun x => (findId bid x nb).map tv2) (gath (T0 bid nb tn tt) (L1of bid nb wid wn nw ids n)).1) KB5 := hkp5.drew.map H5.out.2.2.2.2.2.2.1 (by simp; omega)
                have hlk := hmapr.look_ok (T := 80) (z := nilS) Trym.underlying80 zero84 hlx
                rw [without_some] at hlk
                obtain ⟨m9, ts9, hm9, hT9, h91, h92⟩ : ∃ m9 ts9, m9 ≤ 4096 ∧ (∀ w9, KpB W5 w9 [g1, g1 + 1] → TreesV w9 ((without (fun x => (findId bid x nb).map tv2) (gath (T0 bid nb tn tt) (L1of bid nb wid wn nw ids n)).1 (bid k)).getD nilS) m9 ts9) ∧ (inB bid nb wid wn nw ids n (bid k) = true → m9 = tn k ∧ ts9 = tt k ∧ NilAs ((without (fun x => (findId bid x nb).map tv2) (gath (T0 bid nb tn tt) (L1of bid nb wid wn nw ids n)).1 (bid k)).getD nilS) (tv k)) ∧ (inB bid nb wid wn nw ids n (bid k) = false → (without (fun x => (findId bid x nb).map tv2) (gath (T0 bid nb tn tt) (L1of bid nb wid wn nw ids n)).1 (bid k)).getD nilS = nilS) := by
                  have hso := without_some bid nb tn tt wid wn nw ids n tv2 (bid k)
                  by_cases hin : inB bid nb wid wn nw ids n (bid k) = true
                  · rw [hin] at hso
                    have hval : without (fun x => (findId bid x nb).map tv2) (gath (T0 bid nb tn tt) (L1of bid nb wid wn nw ids n)).1 (bid k) = some (tv2 k) := by
                      unfold without at hso ⊢
                      split
                      · rename_i h; rw [if_pos h] at hso; cases hso
                      · dsimp only
                        rw [findId_at HR.out.2.2.2.2.2.2.1 hlt]; rfl
                    rw [hval]
                    have hk9 := H5.out.2.2.2.2.1 k hlt
                    exact ⟨tn k, tt k, HR.out.2.2.2.1 k hlt, (fun w9 h9 => hk9.1.below (h9.below (Nat.le_refl _) (by simp [hg1])) (Nat.le_refl _)), (fun _ => ⟨rfl, rfl, hk9.2.1⟩), (fun h => by rw [hin] at h; cases h)⟩
                  · have hin' : inB bid nb wid wn nw ids n (bid k) = false := by simpa using hin
                    rw [hin'] at hso
                    have hval : without (fun x => (findId bid x nb).map tv2) (gath (T0 bid nb tn tt) (L1of bid nb wid wn nw ids n)).1 (bid k) = none := by simpa using hso
                    rw [hval]
                    exact ⟨0, tt k, by omega, (fun w9 _ => ⟨.inl ⟨rfl, rfl⟩, fun i hi => absurd hi (by omega)⟩), (fun h => by rw [hin'] at h; cases h), (fun _ => rfl)⟩
                generalize hvx : (without (fun x => (findId bid x nb).map tv2) (gath (T0 bid nb tn tt) (L1of bid nb wid wn nw ids n)).1 (bid k)).getD nilS = tvx at *
                generalize hpk : inB bid nb wid wn nw ids n (bid k) = pk at *
                have HPK := hide hpk
                clear hvx hpk
                have HL := hide hlk
                have HV := hide (And.intro hwb1 (And.intro hwb2 (And.intro hbis (And.intro hbt (And.intro hkp (And.intro hT9 (And.intro h91 h92)))))))
                clear hlk hwb1 hwb2 hbis hbt hkp hT9 h91 h92 hmapr hkp5 hra0 hrow
                go_upto_region 17 with fail
                refine wp_region_lex (fun w' => w'.rangeAt b (off + k * 20) (idc (bid k)) ∧ w'.cell? ⟨ob, 0, none⟩ = some (.map (some gB))) (by kernel_rfl) (by kernel_rfl) ⟨(World.rangeAt_drew _ _ _ _).2 hra, hc0⟩ ?_
                refine lex_mv (.pointer (some ⟨ob, 0, none⟩)) _ rfl rfl rfl ?_
                simp only [Act.put, List.setIfInBounds_toArray, List.set_cons_zero, List.set_cons_succ]
                refine lex_nilc _ ⟨ob, 0, none⟩ rfl rfl rfl ?_
                simp only [Act.put, List.setIfInBounds_toArray, List.set_cons_zero, List.set_cons_succ]
                refine lex_field 83 _ 0 ob 0 0 _ _ rfl rfl rfl Trym.underlying83 rfl i80 rfl ?_
                simp only [Act.put, List.setIfInBounds_toArray, List.set_cons_zero, List.set_cons_succ]
                refine lex_load1 80 _ ob 0 (.map (some gB)) rfl rfl rfl (fun _ h => h.2) (fun w => Trym.isAgg80 w) ?_
                simp only [Act.put, List.setIfInBounds_toArray, List.set_cons_zero, List.set_cons_succ]
                refine lex_mv (.slice (some ⟨b, off, none⟩) nb cpb) _ rfl rfl rfl ?_
                simp only [Act.put, List.setIfInBounds_toArray, List.set_cons_zero, List.set_cons_succ]
                refine lex_mv (.int .i64 (k : Int)) _ rfl rfl rfl ?_
                simp only [Act.put, List.setIfInBounds_toArray, List.set_cons_zero, List.set_cons_succ]
                refine lex_index 28 34 _ _ b off nb cpb k 20 rfl rfl rfl rfl hlt Trym.underlying28 i34 ?_
                simp only [Act.put, List.setIfInBounds_toArray, List.set_cons_zero, List.set_cons_succ]
                refine lex_load 34 _ b (off + k * 20) (idc (bid k)) _ rfl rfl rfl (fun _ h => h.1) Trym.underlying34 rfl (by rw [i34, idc_length, hlx]) ?_
                simp only [Act.put, List.setIfInBounds_toArray, List.set_cons_zero, List.set_cons_succ]
                refine lex_looks 80 _ _ true (.map (some gB)) (.agg (idc (bid k)).toArray) (.tuple #[tvx, .bool pk]) (by kernel_rfl) rfl rfl rfl rfl HL.out ⟨(World.rangeAt_drew _ _ _ _).2 hra, hc0⟩ ?_
                simp only [Act.put, List.setIfInBounds_toArray, List.set_cons_zero, List.set_cons_succ]
                refine lex_mv (.tuple #[tvx, .bool pk]) _ rfl rfl rfl ?_
                simp only [Act.put, List.setIfInBounds_toArray, List.set_cons_zero, List.set_cons_succ]
                refine lex_extract _ 0 #[tvx, .bool pk] tvx rfl rfl rfl rfl ?_
                simp only [Act.put, List.setIfInBounds_toArray, List.set_cons_zero, List.set_cons_succ]
                refine lex_extract _ 1 #[tvx, .bool pk] (.bool pk) rfl rfl rfl rfl ?_
                simp only [Act.put, List.setIfInBounds_toArray, List.set_cons_zero, List.set_cons_succ]
                refine lex_as tvx _ rfl rfl rfl ?_
                simp only [Act.put, List.setIfInBounds_toArray, List.set_cons_zero, List.set_cons_succ]
                refine lex_as (.bool pk) _ rfl rfl rfl ?_
                simp only [Act.put, List.setIfInBounds_toArray, List.set_cons_zero, List.set_cons_succ]
                refine lex_nil (NoPanic.normal ?_)
                clear HL hra hc0
                go_upto_region 18 with fail
                have hth1 : wr.drew.there g1 (0 + k * 1) 1 := WB.there (w := wr.drew) HV.out.1 (by omega)
                refine wp_region_lexp (fun w' => True) trivial ?_
                refine lex_mv (.slice (some ⟨g1, 0, none⟩) nb nb) _ rfl rfl rfl ?_
                simp only [Act.put, List.setIfInBounds_toArray, List.set_cons_zero, List.set_cons_succ]
                refine lex_mv (.int .i64 (k : Int)) _ rfl rfl rfl ?_
                simp only [Act.put, List.setIfInBounds_toArray, List.set_cons_zero, List.set_cons_succ]
                refine lex_mv (.bool pk) _ rfl rfl rfl ?_
                simp only [Act.put, List.setIfInBounds_toArray, List.set_cons_zero, List.set_cons_succ]
                refine lex_index 46 4 _ _ g1 0 nb nb k 1 rfl rfl rfl rfl hlt Trym.underlying46 i4 ?_
                simp only [Act.put, List.setIfInBounds_toArray, List.set_cons_zero, List.set_cons_succ]
                refine lex_store1 4 _ _ g1 (0 + k * 1) (.bool pk) rfl rfl rfl rfl rfl rfl rfl i4 hth1 trivial ?_
                simp only [Act.put, List.setIfInBounds_toArray, List.set_cons_zero, List.set_cons_succ]
                refine lex_nil (NoPanic.normal ?_)
                have hk7 : KpB wr (wr.drew.setCells g1 (0 + k * 1) [.bool pk]) [g1] := (KpB.refl wr [g1]).drew.trans (KpB.setCells (by simp))
                have hk7b : KpB A5 (wr.drew.setCells g1 (0 + k * 1) [.bool pk]) [g1, g1 + 1] := HV.out.2.2.2.2.1.trans (hk7.mono (by simp))
                have hk75 : KpB W5 (wr.drew.setCells g1 (0 + k * 1) [.bool pk]) [g1, g1 + 1] := (HA.out.2.2.mono (by simp)).trans hk7b
                have hT7 := HV.out.2.2.2.2.2.1 _ hk75
                have hw71 : WB (wr.drew.setCells g1 (0 + k * 1) [.bool pk]) g1 4 nb := WB.setCells (w := wr.drew) HV.out.1 _ _
                have hw72 : WB (wr.drew.setCells g1 (0 + k * 1) [.bool pk]) (g1 + 1) 49 nb := HV.out.2.1.kp hk7 (by simp)
                have hbt7 := HV.out.2.2.2.1.kp hk7 (by simp) (by simp; omega)
                have hbi7 : ∀ i, i < k + 1 → (wr.drew.setCells g1 (0 + k * 1) [.bool pk]).cell? ⟨g1, i, none⟩ = some (.bool (inB bid nb wid wn nw ids n (bid i))) := fun i hi => by
                  obtain ⟨u9, hu9⟩ := WB.cell (w := wr.drew) HV.out.1 hlt
                  rw [show 0 + k * 1 = k by omega]
                  by_cases h9 : i = k
                  · subst h9
                    rw [HPK.out]
                    exact World.cell?_setCell_same wr.drew ⟨g1, i, none⟩ _ hu9
                  · exact (World.cell?_setCell_other wr.drew ⟨g1, k, none⟩ ⟨g1, i, none⟩ _ (fun h => h9 (Addr.mk.inj h).2.1.symm)).trans (HV.out.2.2.1 i (by omega))
                have H7 := hide (And.intro hw71 (And.intro hw72 (And.intro hbi7 (And.intro hbt7 (And.intro hk7b hT7)))))
                have HV2 := hide HV.out.2.2.2.2.2.2
                clear hw71 hw72 hbi7 hbt7 hk7b hk75 hT7 hk7 HV hth1
                generalize wr.drew.setCells g1 (0 + k * 1) [.bool pk] = W7 at *
                obtain ⟨a9, c9, h9e⟩ := H7.out.2.2.2.2.2.1.form
                go_upto_region 19 with fail
                refine wp_region_lexp (fun w' => True) trivial ?_
                refine lex_mv (.slice (some ⟨g1 + 1, 0, none⟩) nb nb) _ rfl rfl rfl ?_
                simp only [Act.put, List.setIfInBounds_toArray, List.set_cons_zero, List.set_cons_succ]
                refine lex_mv (.int .i64 (k : Int)) _ rfl rfl rfl ?_
                simp only [Act.put, List.setIfInBounds_toArray, List.set_cons_zero, List.set_cons_succ]
                refine lex_mv tvx _ rfl rfl rfl ?_
                simp only [Act.put, List.setIfInBounds_toArray, List.set_cons_zero, List.set_cons_succ]
                refine lex_solek rfl rfl (fun K hK => ?_)
                have htro := treesOut_any tvx m9 ts9 W7 (by omega) H7.out.2.2.2.2.2
                have HTRO := hide htro
                have H9E := hide h9e
                clear htro h9e
                go_simp
                refine HTRO.out.mono ?_
                rintro e W8 ⟨v8, rfl, hv1, hv2, hv3, hB8⟩
                refine hK.out _ _ trivial ?_
                clear hK HTRO
                try simp only [Act.put, List.setIfInBounds_toArray, List.set_cons_zero, List.set_cons_succ]
                obtain ⟨a8, c8, h8e⟩ := hv1.1.form
                subst h8e
                have hg17 : g1 < W7.heap.size := H7.out.1.lt
                have hg27 : g1 + 1 < W7.heap.size := H7.out.2.1.lt
                have hw81 := H7.out.1.below hB8 hg17
                have hw82 := H7.out.2.1.below hB8 hg27
                have hbi8 : ∀ i, i < k + 1 → W8.cell? ⟨g1, i, none⟩ = some (.bool (inB bid nb wid wn nw ids n (bid i))) := fun i hi => (hB8.cell (p := ⟨g1, i, none⟩) hg17).trans (H7.out.2.2.1 i hi)
                have hbt8 := H7.out.2.2.2.1.kp (KpB.of_below (S := []) hB8) (by simp) (by simp)
                obtain ⟨u9, hu9⟩ := hw82.cell hlt
                have hbt9 := hbt8.snoc (v := .slice a8 m9 c8) hu9 (fun hp => by
                  have hp' : pk = true := HPK.out ▸ hp
                  obtain ⟨e1, e2, e3⟩ := HV2.out.1 hp'
                  subst e1
                  subst e2
                  exact ⟨hv1, Iff.trans hv2 e3⟩) (fun hp => by
                  have hp' : pk = false := HPK.out ▸ hp
                  exact hv2.2 (HV2.out.2 hp')) (hv3.mono (by omega))
                have hk8 : KpB W8 (W8.setCells (g1 + 1) k [.slice a8 m9 c8]) [g1 + 1] := KpB.setCells (by simp)
                have HN := hide (And.intro (hw81.kp hk8 (by simp)) (And.intro (hw82.setCells k [.slice a8 m9 c8]) (And.intro (fun i (hi : i < k + 1) => hk8.cell (hbi8 i hi) (by simp)) (And.intro hbt9 ((H7.out.2.2.2.2.1.trans (KpB.of_below hB8)).trans (hk8.mono (by simp)))))))
                have hth2 : W8.there (g1 + 1) (0 + k * 1) 1 := hw82.there (by omega)
                clear hw81 hw82 hbi8 hbt8 hbt9 hk8 hv1 hv2 hv3 hB8 hu9
                refine lex_index 54 49 _ _ (g1 + 1) 0 nb nb k 1 rfl rfl rfl rfl hlt Trym.underlying54 i49 ?_
                simp only [Act.put, List.setIfInBounds_toArray, List.set_cons_zero, List.set_cons_succ]
                refine lex_store1 49 _ _ (g1 + 1) (0 + k * 1) (.slice a8 m9 c8) rfl rfl rfl rfl rfl rfl rfl i49 hth2 trivial ?_
                simp only [Act.put, List.setIfInBounds_toArray, List.set_cons_zero, List.set_cons_succ]
                refine lex_nil (NoPanic.normal ?_)
                rw [show 0 + k * 1 = k by omega]
                clear hth2
                go_wp2
                go_roundw
                case rel => exact ⟨k + 1, by omega, by go_num, HN.out.1, HN.out.2.1, HN.out.2.2.1, ⟨_, HN.out.2.2.2.1⟩, HN.out.2.2.2.2⟩
                case measure => simp [intOf]; omega
              · have hkn : nb = k := by omega
                subst hkn
                have hkp5 : KpB W5 wr [g1, g1 + 1] := (HA.out.2.2.mono (by simp)).trans hkp
                have hc0 : wr.cell? ⟨ob, 0, none⟩ = some (.map (some gB)) := hkp5.cell HC5.out.1 (by simp; omega)
                have hc2 : wr.cell? ⟨ob, 2, none⟩ = some (.map (some gW)) := hkp5.cell HC5.out.2 (by simp; omega)
                have hm9B := hkp5.map H5.out.2.2.2.2.2.2.1 (by simp; omega)
                have hm9W := hkp5.map H5.out.2.2.2.2.2.2.2 (by simp; omega)
                have hbel59 : Below W5.heap.size W5 wr := hkp5.below (Nat.le_refl _) (by simp [hg1])
                have hg9 : TreesV wr got _ _ := H5.out.1.below hbel59 (Nat.le_refl _)
                have hb9 : IdsV wr ba5 _ _ := H5.out.2.2.1.below hbel59 (Nat.le_refl _)
                have hbelw : Below w.heap.size w wr := H5.out.2.2.2.2.2.1.trans (hbel59.mono (by rw [hg1]; exact hlo))
                have hlenB := hm9B.len (T := 80) Trym.underlying80 3
                have HLB := hide hlenB
                have H9 := hide (And.intro hg9 (And.intro H5.out.2.1 (And.intro hb9 (And.intro H5.out.2.2.2.1 (And.intro hbis (And.intro hbt (And.intro hm9B (And.intro hm9W hbelw))))))))
                have hgl : gW < wr.heap.size := hm9W.lt
                have hobl : ob < wr.heap.size := World.block_lt_of_cell? wr _ hc0
                have hg1l : g1 + 1 < wr.heap.size := hwb2.lt
                have HC9 := hide hc2
                clear hg9 hb9 hbis hbt hm9B hm9W hbelw hlenB hbel59 hkp5 hkp hwb1 hwb2 HA HC5 H5 hc2
                go_upto_region 20 with fail
                refine wp_region_lexp (fun w' => True) trivial ?_
                refine lex_mv (.pointer (some ⟨ob, 0, none⟩)) _ rfl rfl rfl ?_
                simp only [Act.put, List.setIfInBounds_toArray, List.set_cons_zero, List.set_cons_succ]
                refine lex_nilc _ ⟨ob, 0, none⟩ rfl rfl rfl ?_
                simp only [Act.put, List.setIfInBounds_toArray, List.set_cons_zero, List.set_cons_succ]
                refine lex_field 83 _ 0 ob 0 0 _ _ rfl rfl rfl Trym.underlying83 rfl i80 rfl ?_
                simp only [Act.put, List.setIfInBounds_toArray, List.set_cons_zero, List.set_cons_succ]
                refine lex_load1x 80 _ ob 0 (.map (some gB)) rfl rfl rfl rfl hc0 (fun w => Trym.isAgg80 w) trivial ?_
                simp only [Act.put, List.setIfInBounds_toArray, List.set_cons_zero, List.set_cons_succ]
                refine lex_len 80 _ (.map (some gB)) (.int .i64 (KB5.length : Int)) rfl rfl rfl rfl HLB.out trivial ?_
                simp only [Act.put, List.setIfInBounds_toArray, List.set_cons_zero, List.set_cons_succ]
                refine lex_as (.int .i64 (KB5.length : Int)) _ rfl rfl rfl ?_
                simp only [Act.put, List.setIfInBounds_toArray, List.set_cons_zero, List.set_cons_succ]
                refine lex_nil (NoPanic.normal ?_)
                clear hc0 HLB
                obtain ⟨C3, hC3, hmk3⟩ := make_wide Trym.underlying46 f4 (by omega) np (by omega)
                obtain ⟨C4, hC4, hmk4⟩ := make_wide Trym.underlying55 f3 (by omega) np (by omega)
                have HCC := hide (And.intro hC3 hC4)
                clear hC3 hC4
                generalize hkl : ((KB5.length : Nat) : Int) = klb at *
                have HKL := hide hkl
                clear hkl
                go_wp2
                clear hmk3 hmk4
                have hwbA1 : WB ((wr.alloc (.cells C3 4)).alloc (.cells C4 3)) wr.heap.size 4 np := (WB_new wr C3 4 (by rw [HCC.out.1]; omega)).alloc _
                have hwbA2 : WB ((wr.alloc (.cells C3 4)).alloc (.cells C4 3)) (wr.heap.size + 1) 3 np := by
                  have := WB_new (wr.alloc (.cells C3 4)) C4 3 (m := np) (by rw [HCC.out.2]; omega)
                  rw [World.size_alloc] at this
                  exact this
                have hkA : KpB wr ((wr.alloc (.cells C3 4)).alloc (.cells C4 3)) [] := (KpB.alloc _ _ _).trans (KpB.alloc _ _ _)
                generalize (wr.alloc (.cells C3 4)).alloc (.cells C4 3) = A9 at *
                generalize wr = W9 at *
                generalize hg3 : W9.heap.size = g3 at *
                have HA := hide (And.intro hwbA1 (And.intro hwbA2 hkA))
                clear hwbA1 hwbA2 hkA HCC
                generalize hG9 : decL (G0 wid wn nw) (Rof bid nb tn tt wid wn nw ids n) = G9 at *
                have HG9 := hide hG9
                clear hG9
                go_loopw [31] (fun i wr => ∃ k : Nat, k ≤ np ∧ i = .int .i64 k ∧ WB wr g3 4 np ∧ WB wr (g3 + 1) 3 np ∧ (∀ i, i < k → wr.cell? ⟨g3, i, none⟩ = some (.bool (G9 (pid i)).isSome)) ∧ (∀ i, i < k → wr.cell? ⟨g3 + 1, i, none⟩ = some (.int .i64 ((G9 (pid i)).getD 0))) ∧ KpB A9 wr [g3, g3 + 1]) (fun i _ => np - (intOf i).toNat)
                case atStart => exact ⟨0, Nat.zero_le _, rfl, HA.out.1, HA.out.2.1, fun i hi => absurd hi (by omega), fun i hi => absurd hi (by omega), KpB.refl _ _⟩
                case round =>
                  obtain ⟨k, hk, rfl, hwb1, hwb2, hbis, hbns, hkp⟩ := hrel
                  by_cases hlt : k < np
                  · obtain ⟨b, off, rfl, hrow⟩ := HP.out.2.1 k hlt
                    have hlx := HP.out.2.2 k hlt
                    have hkp9 : KpB W9 wr [g3, g3 + 1] := (HA.out.2.2.mono (by simp)).trans hkp
                    have hlo9 : w.heap.size ≤ g3 := by rw [← hg3]; exact H9.out.2.2.2.2.2.2.2.2.size
                    have hra0 := hrow k hlt
                    have hbw : b < w.heap.size := rangeAt_lt hra0 (by rw [idc_length, hlx]; omega)
                    have hra : wr.rangeAt b (off + k * 20) (idc (pid k)) := hkp9.range (rangeAt_below H9.out.2.2.2.2.2.2.2.2 hbw hra0) (by simp; omega)
                    have hc2 : wr.cell? ⟨ob, 2, none⟩ = some (.map (some gW)) := hkp9.cell HC9.out (by simp; omega)
                    have hmapr : MapV wr.drew gW (intF G9) KW5 := hkp9.drew.map H9.out.2.2.2.2.2.2.2.1 (by simp; omega)
                    have hlk := hmapr.look_ok (T := 81) Trym.underlying81 zero3 hlx
                    rw [intF_get, show (intF G9 (pid k)).isSome = (G9 (pid k)).isSome from by unfold intF; rw [Option.isSome_map]] at hlk
                    have HL := hide hlk
                    have HV := hide (And.intro hwb1 (And.intro hwb2 (And.intro hbis (And.intro hbns hkp))))
                    clear hlk hwb1 hwb2 hbis hbns hkp hmapr hkp9 hra0 hrow
                    generalize hv1 : (G9 (pid k)).getD 0 = nv at *
                    generalize hv2 : (G9 (pid k)).isSome = bv2 at *
                    have HV12 := hide (And.intro hv1 hv2)
                    clear hv1 hv2
                    go_upto_region 26 with fail
                    refine wp_region_lex (fun w' => w'.rangeAt b (off + k * 20) (idc (pid k)) ∧ w'.cell? ⟨ob, 2, none⟩ = some (.map (some gW))) (by kernel_rfl) (by kernel_rfl) ⟨(World.rangeAt_drew _ _ _ _).2 hra, hc2⟩ ?_
                    refine lex_mv (.pointer (some ⟨ob, 0, none⟩)) _ rfl rfl rfl ?_
                    simp only [Act.put, List.setIfInBounds_toArray, List.set_cons_zero, List.set_cons_succ]
                    refine lex_nilc _ ⟨ob, 0, none⟩ rfl rfl rfl ?_
                    simp only [Act.put, List.setIfInBounds_toArray, List.set_cons_zero, List.set_cons_succ]
                    refine lex_field 83 _ 2 ob 0 2 _ _ rfl rfl rfl Trym.underlying83 rfl i81 rfl ?_
                    simp only [Act.put, List.setIfInBounds_toArray, List.set_cons_zero, List.set_cons_succ]
                    refine lex_load1 81 _ ob 2 (.map (some gW)) rfl rfl rfl (fun _ h => h.2) (fun w => Trym.isAgg81 w) ?_
                    simp only [Act.put, List.setIfInBounds_toArray, List.set_cons_zero, List.set_cons_succ]
                    refine lex_mv (.slice (some ⟨b, off, none⟩) np cpi) _ rfl rfl rfl ?_
                    simp only [Act.put, List.setIfInBounds_toArray, List.set_cons_zero, List.set_cons_succ]
                    refine lex_mv (.int .i64 (k : Int)) _ rfl rfl rfl ?_
                    simp only [Act.put, List.setIfInBounds_toArray, List.set_cons_zero, List.set_cons_succ]
                    refine lex_index 28 34 _ _ b off np cpi k 20 rfl rfl rfl rfl hlt Trym.underlying28 i34 ?_
                    simp only [Act.put, List.setIfInBounds_toArray, List.set_cons_zero, List.set_cons_succ]
                    refine lex_load 34 _ b (off + k * 20) (idc (pid k)) _ rfl rfl rfl (fun _ h => h.1) Trym.underlying34 rfl (by rw [i34, idc_length, hlx]) ?_
                    simp only [Act.put, List.setIfInBounds_toArray, List.set_cons_zero, List.set_cons_succ]
                    refine lex_looks 81 _ _ true (.map (some gW)) (.agg (idc (pid k)).toArray) (.tuple #[.int .i64 nv, .bool bv2]) (by kernel_rfl) rfl rfl rfl rfl HL.out ⟨(World.rangeAt_drew _ _ _ _).2 hra, hc2⟩ ?_
                    simp only [Act.put, List.setIfInBounds_toArray, List.set_cons_zero, List.set_cons_succ]
                    refine lex_mv (.tuple #[.int .i64 nv, .bool bv2]) _ rfl rfl rfl ?_
                    simp only [Act.put, List.setIfInBounds_toArray, List.set_cons_zero, List.set_cons_succ]
                    refine lex_extract _ 0 #[.int .i64 nv, .bool bv2] (.int .i64 nv) rfl rfl rfl rfl ?_
                    simp only [Act.put, List.setIfInBounds_toArray, List.set_cons_zero, List.set_cons_succ]
                    refine lex_extract _ 1 #[.int .i64 nv, .bool bv2] (.bool bv2) rfl rfl rfl rfl ?_
                    simp only [Act.put, List.setIfInBounds_toArray, List.set_cons_zero, List.set_cons_succ]
                    refine lex_as (.int .i64 nv) _ rfl rfl rfl ?_
                    simp only [Act.put, List.setIfInBounds_toArray, List.set_cons_zero, List.set_cons_succ]
                    refine lex_as (.bool bv2) _ rfl rfl rfl ?_
                    simp only [Act.put, List.setIfInBounds_toArray, List.set_cons_zero, List.set_cons_succ]
                    refine lex_nil (NoPanic.normal ?_)
                    clear HL hra hc2
                    go_upto_region 27 with fail
                    have hth1 : wr.drew.there g3 (0 + k * 1) 1 := WB.there (w := wr.drew) HV.out.1 (by omega)
                    refine wp_region_lexp (fun w' => True) trivial ?_
                    refine lex_mv (.slice (some ⟨g3, 0, none⟩) np np) _ rfl rfl rfl ?_
                    simp only [Act.put, List.setIfInBounds_toArray, List.set_cons_zero, List.set_cons_succ]
                    refine lex_mv (.int .i64 (k : Int)) _ rfl rfl rfl ?_
                    simp only [Act.put, List.setIfInBounds_toArray, List.set_cons_zero, List.set_cons_succ]
                    refine lex_mv (.bool bv2) _ rfl rfl rfl ?_
                    simp only [Act.put, List.setIfInBounds_toArray, List.set_cons_zero, List.set_cons_succ]
                    refine lex_index 46 4 _ _ g3 0 np np k 1 rfl rfl rfl rfl hlt Trym.underlying46 i4 ?_
                    simp only [Act.put, List.setIfInBounds_toArray, List.set_cons_zero, List.set_cons_succ]
                    refine lex_store1 4 _ _ g3 (0 + k * 1) (.bool bv2) rfl rfl rfl rfl rfl rfl rfl i4 hth1 trivial ?_
                    simp only [Act.put, List.setIfInBounds_toArray, List.set_cons_zero, List.set_cons_succ]
                    refine lex_nil (NoPanic.normal ?_)
                    have hk7 : KpB wr (wr.drew.setCells g3 (0 + k * 1) [.bool bv2]) [g3] := (KpB.refl wr [g3]).drew.trans (KpB.setCells (by simp))
                    have hw71 : WB (wr.drew.setCells g3 (0 + k * 1) [.bool bv2]) g3 4 np := WB.setCells (w := wr.drew) HV.out.1 _ _
                    have hw72 : WB (wr.drew.setCells g3 (0 + k * 1) [.bool bv2]) (g3 + 1) 3 np := HV.out.2.1.kp hk7 (by simp)
                    have hbn7 : ∀ i, i < k → (wr.drew.setCells g3 (0 + k * 1) [.bool bv2]).cell? ⟨g3 + 1, i, none⟩ = some (.int .i64 ((G9 (pid i)).getD 0)) := fun i hi => hk7.cell (HV.out.2.2.2.1 i hi) (by simp)
                    have hbi7 : ∀ i, i < k + 1 → (wr.drew.setCells g3 (0 + k * 1) [.bool bv2]).cell? ⟨g3, i, none⟩ = some (.bool (G9 (pid i)).isSome) := fun i hi => by
                      obtain ⟨u9, hu9⟩ := WB.cell (w := wr.drew) HV.out.1 hlt
                      rw [show 0 + k * 1 = k by omega]
                      by_cases h9 : i = k
                      · subst h9
                        rw [HV12.out.2]
                        exact World.cell?_setCell_same wr.drew ⟨g3, i, none⟩ _ hu9
                      · exact (World.cell?_setCell_other wr.drew ⟨g3, k, none⟩ ⟨g3, i, none⟩ _ (fun h => h9 (Addr.mk.inj h).2.1.symm)).trans (HV.out.2.2.1 i (by omega))
                    have hk7b : KpB A9 (wr.drew.setCells g3 (0 + k * 1) [.bool bv2]) [g3, g3 + 1] := HV.out.2.2.2.2.trans (hk7.mono (by simp))
                    have H7 := hide (And.intro hw71 (And.intro hw72 (And.intro hbi7 (And.intro hbn7 hk7b))))
                    clear hw71 hw72 hbi7 hbn7 hk7b hk7 HV hth1
                    generalize wr.drew.setCells g3 (0 + k * 1) [.bool bv2] = W7 at *
                    go_upto_region 28 with fail
                    have hth2 : W7.there (g3 + 1) (0 + k * 1) 1 := H7.out.2.1.there (by omega)
                    refine wp_region_lexp (fun w' => True) trivial ?_
                    refine lex_mv (.slice (some ⟨g3 + 1, 0, none⟩) np np) _ rfl rfl rfl ?_
                    simp only [Act.put, List.setIfInBounds_toArray, List.set_cons_zero, List.set_cons_succ]
                    refine lex_mv (.int .i64 (k : Int)) _ rfl rfl rfl ?_
                    simp only [Act.put, List.setIfInBounds_toArray, List.set_cons_zero, List.set_cons_succ]
                    refine lex_mv (.int .i64 nv) _ rfl rfl rfl ?_
                    simp only [Act.put, List.setIfInBounds_toArray, List.set_cons_zero, List.set_cons_succ]
                    refine lex_index 55 3 _ _ (g3 + 1) 0 np np k 1 rfl rfl rfl rfl hlt Trym.underlying55 i3 ?_
                    simp only [Act.put, List.setIfInBounds_toArray, List.set_cons_zero, List.set_cons_succ]
                    refine lex_store1 3 _ _ (g3 + 1) (0 + k * 1) (.int .i64 nv) rfl rfl rfl rfl rfl rfl rfl i3 hth2 trivial ?_
                    simp only [Act.put, List.setIfInBounds_toArray, List.set_cons_zero, List.set_cons_succ]
                    refine lex_nil (NoPanic.normal ?_)
                    have hk8 : KpB W7 (W7.setCells (g3 + 1) (0 + k * 1) [.int .i64 nv]) [g3 + 1] := KpB.setCells (by simp)
                    have hbn8 : ∀ i, i < k + 1 → (W7.setCells (g3 + 1) (0 + k * 1) [.int .i64 nv]).cell? ⟨g3 + 1, i, none⟩ = some (.int .i64 ((G9 (pid i)).getD 0)) := fun i hi => by
                      obtain ⟨u9, hu9⟩ := H7.out.2.1.cell hlt
                      rw [show 0 + k * 1 = k by omega]
                      by_cases h9 : i = k
                      · subst h9
                        rw [HV12.out.1]
                        exact World.cell?_setCell_same W7 ⟨g3 + 1, i, none⟩ _ hu9
                      · exact (World.cell?_setCell_other W7 ⟨g3 + 1, k, none⟩ ⟨g3 + 1, i, none⟩ _ (fun h => h9 (Addr.mk.inj h).2.1.symm)).trans (H7.out.2.2.2.1 i (by omega))
                    have HN := hide (And.intro (H7.out.1.kp hk8 (by simp)) (And.intro (H7.out.2.1.setCells (0 + k * 1) [.int .i64 nv]) (And.intro (fun i (hi : i < k + 1) => hk8.cell (H7.out.2.2.1 i hi) (by simp)) (And.intro hbn8 (H7.out.2.2.2.2.trans (hk8.mono (by simp)))))))
                    clear hk8 hbn8 hth2 H7
                    generalize W7.setCells (g3 + 1) (0 + k * 1) [.int .i64 nv] = W8 at *
                    go_wp2
                    go_roundw
                    case rel => exact ⟨k + 1, by omega, by go_num, HN.out.1, HN.out.2.1, HN.out.2.2.1, HN.out.2.2.2.1, HN.out.2.2.2.2⟩
                    case measure => simp [intOf]; omega
                  · have hkn : np = k := by omega
                    subst hkn
                    have hkp9 : KpB W9 wr [g3, g3 + 1] := (HA.out.2.2.mono (by simp)).trans hkp
                    have hbel9 : Below W9.heap.size W9 wr := hkp9.below (Nat.le_refl _) (by simp [hg3])
                    have hc2 : wr.cell? ⟨ob, 2, none⟩ = some (.map (some gW)) := hkp9.cell HC9.out (by simp; omega)
                    have hmW := hkp9.map H9.out.2.2.2.2.2.2.2.1 (by simp; omega)
                    have hlenW := hmW.len (T := 81) Trym.underlying81 3
                    have HLW := hide hlenW
                    have HF := hide (And.intro hbis (And.intro hbns (And.intro hkp9 hbel9)))
                    clear hbis hbns hkp9 hbel9 hlenW hmW hwb1 hwb2 hkp
                    go_upto_region 29 with fail
                    refine wp_region_lexp (fun w' => True) trivial ?_
                    refine lex_mv (.pointer (some ⟨ob, 0, none⟩)) _ rfl rfl rfl ?_
                    simp only [Act.put, List.setIfInBounds_toArray, List.set_cons_zero, List.set_cons_succ]
                    refine lex_nilc _ ⟨ob, 0, none⟩ rfl rfl rfl ?_
                    simp only [Act.put, List.setIfInBounds_toArray, List.set_cons_zero, List.set_cons_succ]
                    refine lex_field 83 _ 2 ob 0 2 _ _ rfl rfl rfl Trym.underlying83 rfl i81 rfl ?_
                    simp only [Act.put, List.setIfInBounds_toArray, List.set_cons_zero, List.set_cons_succ]
                    refine lex_load1x 81 _ ob 2 (.map (some gW)) rfl rfl rfl rfl hc2 (fun w => Trym.isAgg81 w) trivial ?_
                    simp only [Act.put, List.setIfInBounds_toArray, List.set_cons_zero, List.set_cons_succ]
                    refine lex_len 81 _ (.map (some gW)) (.int .i64 (KW5.length : Int)) rfl rfl rfl rfl HLW.out trivial ?_
                    simp only [Act.put, List.setIfInBounds_toArray, List.set_cons_zero, List.set_cons_succ]
                    refine lex_as (.int .i64 (KW5.length : Int)) _ rfl rfl rfl ?_
                    simp only [Act.put, List.setIfInBounds_toArray, List.set_cons_zero, List.set_cons_succ]
                    refine lex_nil (NoPanic.normal ?_)
                    clear hc2 HLW
                    generalize hklw : ((KW5.length : Nat) : Int) = klw at *
                    have HKW := hide hklw
                    clear hklw
                    go_wp2
                    have hb9 := HF.out.2.2.2
                    have hkB := H9.out.2.2.2.2.2.2.1.keys
                    have hkW := H9.out.2.2.2.2.2.2.2.1.keys
                    obtain ⟨btv9, hbt9⟩ : ∃ btv9, Bt W9 nb (g1 + 1) btv9 tv tn tt (fun i => inB bid nb wid wn nw ids n (bid i)) := ⟨_, H9.out.2.2.2.2.2.1⟩
                    have hzz : ZZ bid nb tv tn tt wid wn nw ids n (.slice ai n ci) pid np wr got ba5 (.slice (some ⟨g1, 0, none⟩) nb nb) (.slice (some ⟨g1 + 1, 0, none⟩) nb nb) (.int .i64 klb) (.slice (some ⟨g3, 0, none⟩) np np) (.slice (some ⟨g3 + 1, 0, none⟩) np np) (.int .i64 klw) := by
                      constructor
                      · exact H9.out.1.below hb9 (Nat.le_refl _)
                      · exact H9.out.2.1
                      · exact H9.out.2.2.1.below hb9 (Nat.le_refl _)
                      · exact H9.out.2.2.2.1
                      · exact ⟨g1, rfl, fun i hi => (hb9.cell (p := ⟨g1, i, none⟩) (by show g1 < _; omega)).trans (H9.out.2.2.2.2.1 i hi)⟩
                      · refine ⟨g1 + 1, btv9, rfl, fun i hi => ?_⟩
                        obtain ⟨b1, b2, b3, _⟩ := hbt9 i hi
                        exact ⟨(hb9.cell (p := ⟨g1 + 1, i, none⟩) (by show g1 + 1 < _; omega)).trans b1, fun hp => ⟨(b2 hp).1.below hb9 (Nat.le_refl _), (b2 hp).2⟩, b3⟩
                      · refine ⟨KB5, by rw [HKL.out], hkB.1, hkB.2.1, fun x hx => ?_⟩
                        rw [hkB.2.2 x hx, without_some]
                      · rw [HG9.out]
                        exact ⟨g3, rfl, HF.out.1⟩
                      · rw [HG9.out]
                        exact ⟨g3 + 1, rfl, HF.out.2.1⟩
                      · rw [HG9.out]
                        refine ⟨KW5, by rw [HKW.out], hkW.1, hkW.2.1, fun x hx => ?_⟩
                        rw [hkW.2.2 x hx]
                        unfold intF
                        rw [Option.isSome_map]
                    have hbf : Below w.heap.size w wr := H9.out.2.2.2.2.2.2.2.2.trans (hb9.mono H9.out.2.2.2.2.2.2.2.2.size)
                    exact bodyPost_ret (v := .tuple #[got, ba5, .slice (some ⟨g1, 0, none⟩) nb nb, .slice (some ⟨g1 + 1, 0, none⟩) nb nb, .int .i64 klb, .slice (some ⟨g3, 0, none⟩) np np, .slice (some ⟨g3 + 1, 0, none⟩) np np, .int .i64 klw]) (by simp [results, Trym.results26, go_sem]) rfl ⟨got, ba5, _, _, _, _, _, _, rfl, hzz, hbf⟩

end Go.Proofs.Qxb6601415aMods
