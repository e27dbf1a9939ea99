import Derived.Test.Qxb6601415aModsV
namespace Go.Proofs.Qxb6601415aMods
open Go.RowKit Go.Extern.Stop
set_option linter.unusedVariables false
set_option linter.unusedSimpArgs false
set_option maxRecDepth 20000

theorem nodup_snoc {L : List (List UInt8)} {x : List UInt8} (h : L.Nodup) (hx : x ∉ L) : (L ++ [x]).Nodup := by
  rw [List.nodup_append]
  refine ⟨h, by simp, fun a ha b hb => ?_⟩
  simp at hb
  subst hb
  exact fun e => hx (e ▸ ha)

/-- What the ids listed so far hold. -/
structure Listed (L : List (List UInt8)) (m : Nat) (Must : List UInt8 → Prop) : Prop where
  nd : L.Nodup
  len : L.length ≤ m
  must : ∀ x, Must x → x ∈ L
theorem Listed.same {L : List (List UInt8)} {m : Nat} {Must Must' : List UInt8 → Prop} {x : List UInt8} (h : Listed L m Must) (hx : x ∈ L) (hM : ∀ y, Must' y → Must y ∨ y = x) : Listed L (m + 1) Must' :=
  ⟨h.nd, Nat.le_succ_of_le h.len, fun y hy => (hM y hy).elim (h.must y) (fun e => e ▸ hx)⟩
theorem Listed.more {L : List (List UInt8)} {m : Nat} {Must Must' : List UInt8 → Prop} {x : List UInt8} (h : Listed L m Must) (hx : x ∉ L) (hM : ∀ y, Must' y → Must y ∨ y = x) : Listed (L ++ [x]) (m + 1) Must' :=
  ⟨nodup_snoc h.nd hx, by simp; exact h.len, fun y hy => (hM y hy).elim (fun e => List.mem_append_left _ (h.must y e)) (fun e => by simp [e])⟩

def InW (wid : Nat → List UInt8) (k : Nat) (x : List UInt8) : Prop := ∃ i, i < k ∧ wid i = x
def InT (tn : Nat → Nat) (tt : Nat → Nat → Tr) (k : Nat) (x : List UInt8) : Prop := ∃ i j, i < k ∧ j < tn i ∧ (tt i j).id = x
def InR (ts : Nat → Tr) (k : Nat) (x : List UInt8) : Prop := ∃ j, j < k ∧ (ts j).id = x

set_option maxHeartbeats 4000000 in
theorem probeI_any (vb vw : Value) (nb nw : Nat) (bid : Nat → List UInt8) (tv : Nat → Value) (tn : Nat → Nat) (tt : Nat → Nat → Tr) (wid : Nat → List UInt8) (wn : Nat → Int) (w : World) (hnb : nb ≤ 4096) (hnw : nw ≤ 4096) (hsum : psum tn nb ≤ 4096)
    (hb : BasesV w vb nb bid tv) (hts : ∀ i, i < nb → TreesV w (tv i) (tn i) (tt i)) (hw : WaitsV w vw nw wid wn) :
    Calls Trym.prog 25 #[vb, vw] w fun e w' => ∃ v' L, e = .returned v' ∧ IdsV w' v' L.length (lid L) ∧ Listed L 8192 (fun x => InW wid nw x ∨ InT tn tt nb x) ∧ Below w.heap.size w w' := by
  obtain ⟨ab, cb, rfl, hbo⟩ := hb.1.open
  obtain ⟨aw, cw, rfl, hwo⟩ := hw.1.open
  obtain ⟨i0, hi1, hi2⟩ := Option.map_eq_some_iff.1 e34
  obtain ⟨z0, hz1, hz2⟩ := Option.map_eq_some_iff.1 (Prod.mk.inj hi2).1
  have hs0 : i0.size = 20 := (Prod.mk.inj (Prod.mk.inj hi2).2).1
  have hb0 : i0.bytes = 20 := (Prod.mk.inj (Prod.mk.inj hi2).2).2
  obtain ⟨wm, hmk, hown0, hgr0⟩ := run_make_own (P := Trym.prog) w w.heap.size 28 34 i0 z0 20 Trym.underlying28 hi1 hz1 hs0 .i64 .i64 nw (by rw [hb0]; omega) (by simp only [maxLen]; omega) (Nat.le_refl _)
  have HR := hide (And.intro hb.2 (And.intro hbo (And.intro hts (And.intro hw.2 (And.intro hwo hsum)))))
  have H0 : Hid (OwnIds wm w.heap.size 34 (.slice (some ⟨w.heap.size, 0, none⟩) 0 nw) [] ∧ Below w.heap.size w wm) := hide ⟨⟨⟨hown0, fun x hx => by simp at hx⟩, fun x hx => by simp at hx⟩, (Below.refl _ _).grown hgr0 (Nat.le_refl _) (fun k hk => by simp at hk)⟩
  clear hb hts hw hbo hwo hi1 hi2 hz1 hz2 hs0 hb0 hown0 hgr0 hsum
  go_enter Trym.func25, Trym.ntmps25
  go_wp2
  clear hmk
  go_loopw [5, 6] (fun o i wr => ∃ (k : Nat) (L : List (List UInt8)), k ≤ nw ∧ i = .int .i64 k ∧ OwnIds wr w.heap.size 34 o L ∧ Listed L k (InW wid k) ∧ Below w.heap.size w wr) (fun _ i _ => nw - (intOf i).toNat)
  case atStart => exact ⟨0, [], Nat.zero_le _, rfl, H0.out.1, ⟨by simp, by simp, fun x ⟨i, hi, _⟩ => absurd hi (by omega)⟩, H0.out.2⟩
  case round =>
    obtain ⟨k, L, hk, rfl, hown, hlist, hbel⟩ := hrel
    clear H0
    by_cases hlt : k < nw
    · obtain ⟨b, off, rfl, hrow⟩ := HR.out.2.2.2.2.1 k hlt
      have hlk := HR.out.2.2.2.1 k hlt
      have hra0 := hrow k hlt
      have hbw : b < w.heap.size := rangeAt_lt hra0 (by simp [ent])
      have hra : wr.rangeAt b (off + k * 21 + 0) (idc (wid k)) := rangeAt_left (rangeAt_below hbel hbw hra0)
      have HW := hide (And.intro hown (And.intro hlist hbel))
      have hLn : L.length ≤ k := hlist.len
      clear hra0 hown hlist hbel hrow
      go_upto_region 5 with fail
      refine wp_region_lexp (fun w' => w'.rangeAt b (off + k * 21 + 0) (idc (wid k))) hra ?_
      refine lex_mv u5 _ rfl rfl rfl ?_
      simp only [Act.put, List.setIfInBounds_toArray, List.set_cons_zero, List.set_cons_succ]
      refine lex_mv (.slice (some ⟨b, off, none⟩) nw cw) _ rfl rfl rfl ?_
      simp only [Act.put, List.setIfInBounds_toArray, List.set_cons_zero, List.set_cons_succ]
      refine lex_mv (.int .i64 (k : Int)) _ rfl rfl rfl ?_
      simp only [Act.put, List.setIfInBounds_toArray, List.set_cons_zero, List.set_cons_succ]
      refine lex_index 40 77 _ _ b off nw cw k 21 rfl rfl rfl rfl hlt Trym.underlying40 i77 ?_
      simp only [Act.put, List.setIfInBounds_toArray, List.set_cons_zero, List.set_cons_succ]
      refine lex_field 77 _ 0 b (off + k * 21) 0 _ _ rfl rfl rfl Trym.underlying77 rfl i34 rfl ?_
      simp only [Act.put, List.setIfInBounds_toArray, List.set_cons_zero, List.set_cons_succ]
      refine lex_load 34 _ b (off + k * 21 + 0) (idc (wid k)) _ rfl rfl rfl (fun _ h => h) Trym.underlying34 rfl (by rw [i34, idc_length, hlk]) ?_
      simp only [Act.put, List.setIfInBounds_toArray, List.set_cons_zero, List.set_cons_succ]
      refine lex_solek rfl rfl (fun K hK => ?_)
      go_simp
      refine (contains_any u5 L.length (lid L) (wid k) wr (by omega) hlk HW.out.1.view).mono ?_
      rintro e w1 ⟨rfl, hb1⟩
      have hra1 := rangeAt_below hb1 (Nat.lt_of_lt_of_le hbw HW.out.2.2.size) hra
      refine hK.out _ _ hra1 ?_
      clear hK
      try simp only [Act.put, List.setIfInBounds_toArray, List.set_cons_zero, List.set_cons_succ]
      refine lex_not 4 _ (hasId (lid L) (wid k) L.length) rfl rfl rfl ?_
      refine lex_nil (NoPanic.normal ?_)
      have HW1 := hide (And.intro (HW.out.1.below hb1 (Nat.le_refl _)) (And.intro HW.out.2.1 (HW.out.2.2.trans (hb1.mono HW.out.2.2.size))))
      clear hra HW hb1
      cases hq : hasId (lid L) (wid k) L.length with
      | true =>
        have HQ := hide ((hasId_mem L (wid k)).1 hq)
        clear hq hra1
        go_wp2
        go_roundw
        case rel => exact ⟨k + 1, L, by omega, by go_num, HW1.out.1, HW1.out.2.1.same HQ.out (fun y ⟨i, hi, e⟩ => by
            by_cases h2 : i < k
            · exact .inl ⟨i, h2, e⟩
            · have : i = k := by omega
              subst this
              exact .inr e.symm), HW1.out.2.2⟩
        case measure => simp [intOf]; omega
      | false =>
        have HQ := hide (show wid k ∉ L from fun h => by rw [(hasId_mem L (wid k)).2 h] at hq; cases hq)
        clear hq
        go_upto_region 6 with fail
        obtain ⟨v2, w2, hap, hown2, _, _, hgr2, hb2⟩ := append_id Trym.underlying28 e34 28 HW1.out.1 hlk (by omega) (HW1.out.2.2.size)
        have hra2 : w2.rangeAt b (off + k * 21 + 0) (idc (wid k)) := rangeAt_below hb2 hbw hra1
        have HW2 := hide (And.intro hown2 (HW1.out.2.2.trans hb2))
        clear hown2 hgr2 hb2
        refine wp_region_lexp (fun w' => w'.rangeAt b (off + k * 21 + 0) (idc (wid k))) hra1 ?_
        refine lex_mv u5 _ rfl rfl rfl ?_
        simp only [Act.put, List.setIfInBounds_toArray, List.set_cons_zero, List.set_cons_succ]
        refine lex_mv (.slice (some ⟨b, off, none⟩) nw cw) _ rfl rfl rfl ?_
        simp only [Act.put, List.setIfInBounds_toArray, List.set_cons_zero, List.set_cons_succ]
        refine lex_mv (.int .i64 (k : Int)) _ rfl rfl rfl ?_
        simp only [Act.put, List.setIfInBounds_toArray, List.set_cons_zero, List.set_cons_succ]
        refine lex_index 40 77 _ _ b off nw cw k 21 rfl rfl rfl rfl hlt Trym.underlying40 i77 ?_
        simp only [Act.put, List.setIfInBounds_toArray, List.set_cons_zero, List.set_cons_succ]
        refine lex_field 77 _ 0 b (off + k * 21) 0 _ _ rfl rfl rfl Trym.underlying77 rfl i34 rfl ?_
        simp only [Act.put, List.setIfInBounds_toArray, List.set_cons_zero, List.set_cons_succ]
        refine lex_load 34 _ b (off + k * 21 + 0) (idc (wid k)) _ rfl rfl rfl (fun _ h => h) Trym.underlying34 rfl (by rw [i34, idc_length, hlk]) ?_
        simp only [Act.put, List.setIfInBounds_toArray, List.set_cons_zero, List.set_cons_succ]
        refine lex_bslice 28 1 _ #[(0, .agg (idc (wid k)).toArray)] _ _ rfl rfl rfl rfl (one_slice Trym.underlying28 e34 (by omega) (by omega) _ (by rw [idc_length, hlk]) w1) (World.rangeAt_alloc hra1 _) ?_
        simp only [Act.put, List.setIfInBounds_toArray, List.set_cons_zero, List.set_cons_succ]
        refine lex_append 28 _ _ u5 (.slice (some ⟨w1.heap.size, 0, none⟩) 1 1) v2 w2 rfl rfl rfl rfl rfl hap hra2 ?_
        simp only [Act.put, List.setIfInBounds_toArray, List.set_cons_zero, List.set_cons_succ]
        refine lex_as v2 _ rfl rfl rfl ?_
        simp only [Act.put, List.setIfInBounds_toArray, List.set_cons_zero, List.set_cons_succ]
        refine lex_nil (NoPanic.normal ?_)
        clear hap hra1 hra2
        go_wp2
        go_roundw
        case rel => exact ⟨k + 1, L ++ [wid k], by omega, by go_num, HW2.out.1, HW1.out.2.1.more HQ.out (fun y ⟨i, hi, e⟩ => by
            by_cases h2 : i < k
            · exact .inl ⟨i, h2, e⟩
            · have : i = k := by omega
              subst this
              exact .inr e.symm), HW2.out.2⟩
        case measure => simp [intOf]; omega
    · have : k = nw := by omega
      subst this
      have HW := hide (And.intro hown (And.intro hlist hbel))
      clear hown hlist hbel
      go_wp2
      generalize wr = wr0 at *
      generalize u5 = u50 at *
      go_loopw [5, 7] (fun o i wr => ∃ (j : Nat) (L : List (List UInt8)), j ≤ nb ∧ i = .int .i64 j ∧ OwnIds wr w.heap.size 34 o L ∧ Listed L (k + psum tn j) (fun x => InW wid k x ∨ InT tn tt j x) ∧ Below w.heap.size w wr) (fun _ i _ => nb - (intOf i).toNat)
      case atStart => exact ⟨0, L, Nat.zero_le _, rfl, HW.out.1, ⟨HW.out.2.1.nd, HW.out.2.1.len, fun x hx => hx.elim (HW.out.2.1.must x) (fun ⟨i, _, hi, _⟩ => absurd hi (by omega))⟩, HW.out.2.2⟩
      case round =>
        obtain ⟨j, L2, hj, rfl, hown, hlist, hbel⟩ := hrel
        clear HW
        by_cases hlj : j < nb
        · obtain ⟨b, off, rfl, hrow⟩ := HR.out.2.1 j hlj
          have hlk := HR.out.1 j hlj
          have hra0 := hrow j hlj
          have hbw : b < w.heap.size := rangeAt_lt hra0 (by simp [ent])
          obtain ⟨at', ct', htv, hto⟩ := (HR.out.2.2.1 j hlj).1.open
          have hoks := (HR.out.2.2.1 j hlj).2
          have hc : wr.cell? ⟨b, off + j * 21 + 20, none⟩ = some (.slice at' (tn j) ct') := by
            rw [← htv]
            exact rangeAt_head (rangeAt_right (rangeAt_below hbel hbw hra0) (by rw [idc_length, hlk]))
          have hps : psum tn (j + 1) ≤ psum tn nb := by
            have : ∀ d, psum tn (j + 1) ≤ psum tn (j + 1 + d) := fun d => by
              induction d with
              | zero => exact Nat.le_refl _
              | succ d ih => exact Nat.le_trans ih (Nat.le_add_right _ _)
            have h9 := this (nb - (j + 1))
            rwa [show j + 1 + (nb - (j + 1)) = nb by omega] at h9
          have hsum := HR.out.2.2.2.2.2
          have hps2 : psum tn (j + 1) = psum tn j + tn j := rfl
          have hbnd : psum tn j + tn j ≤ 4096 := by omega
          clear hps hsum
          have HW := hide (And.intro hown (And.intro hlist (And.intro hbel (And.intro hoks (And.intro hto hps2)))))
          clear hra0 hown hlist hbel hrow htv hoks hto hps2
          go_wp2
          clear hc
          generalize wr = wr1 at *
          generalize u5 = u51 at *
          go_loopw [5, 9] (fun o i wr => ∃ (t : Nat) (L : List (List UInt8)), t ≤ tn j ∧ i = .int .i64 t ∧ OwnIds wr w.heap.size 34 o L ∧ Listed L (k + psum tn j + t) (fun x => (InW wid k x ∨ InT tn tt j x) ∨ InR (tt j) t x) ∧ Below w.heap.size w wr) (fun _ i _ => tn j - (intOf i).toNat)
          case atStart => exact ⟨0, L2, Nat.zero_le _, rfl, HW.out.1, ⟨HW.out.2.1.nd, HW.out.2.1.len, fun x hx => hx.elim (HW.out.2.1.must x) (fun ⟨i, hi, _⟩ => absurd hi (by omega))⟩, HW.out.2.2.1⟩
          case round =>
            obtain ⟨t, L3, ht, rfl, hown, hlist, hbel⟩ := hrel
            by_cases hlt2 : t < tn j
            · obtain ⟨b2, off2, rfl, hrow2⟩ := HW.out.2.2.2.2.1 t hlt2
              have hok := HW.out.2.2.2.1 t hlt2
              have hra0 := hrow2 t hlt2
              have hbw2 : b2 < w.heap.size := rangeAt_lt hra0 (by rw [trc_length hok]; omega)
              have hra : wr.rangeAt b2 (off2 + t * 43 + 0) (idc (tt j t).id) := (trc_range (rangeAt_below hbel hbw2 hra0) hok).1
              have hlk3 : (tt j t).id.length = 20 := hok.1
              have HV := hide (And.intro hown (And.intro hlist (And.intro hbel hok)))
              have hLn : L3.length ≤ k + psum tn j + t := hlist.len
              generalize psum tn j = pj at *
              clear hra0 hown hlist hbel hrow2 hok
              go_upto_region 14 with fail
              refine wp_region_lexp (fun w' => w'.rangeAt b2 (off2 + t * 43 + 0) (idc (tt j t).id)) hra ?_
              refine lex_mv u5 _ rfl rfl rfl ?_
              simp only [Act.put, List.setIfInBounds_toArray, List.set_cons_zero, List.set_cons_succ]
              refine lex_mv (.slice (some ⟨b2, off2, none⟩) (tn j) ct') _ rfl rfl rfl ?_
              simp only [Act.put, List.setIfInBounds_toArray, List.set_cons_zero, List.set_cons_succ]
              refine lex_mv (.int .i64 (t : Int)) _ rfl rfl rfl ?_
              simp only [Act.put, List.setIfInBounds_toArray, List.set_cons_zero, List.set_cons_succ]
              refine lex_index 49 60 _ _ b2 off2 (tn j) ct' t 43 rfl rfl rfl rfl hlt2 Trym.underlying49 i60 ?_
              simp only [Act.put, List.setIfInBounds_toArray, List.set_cons_zero, List.set_cons_succ]
              refine lex_field 60 _ 0 b2 (off2 + t * 43) 0 _ _ rfl rfl rfl Trym.underlying60 rfl i34 rfl ?_
              simp only [Act.put, List.setIfInBounds_toArray, List.set_cons_zero, List.set_cons_succ]
              refine lex_load 34 _ b2 (off2 + t * 43 + 0) (idc (tt j t).id) _ rfl rfl rfl (fun _ h => h) Trym.underlying34 rfl (by rw [i34, idc_length, hlk3]) ?_
              simp only [Act.put, List.setIfInBounds_toArray, List.set_cons_zero, List.set_cons_succ]
              refine lex_solek rfl rfl (fun K hK => ?_)
              go_simp
              refine (contains_any u5 L3.length (lid L3) (tt j t).id wr (by omega) hlk3 HV.out.1.view).mono ?_
              rintro e w1 ⟨rfl, hb1⟩
              have hra1 := rangeAt_below hb1 (Nat.lt_of_lt_of_le hbw2 HV.out.2.2.1.size) hra
              refine hK.out _ _ hra1 ?_
              clear hK
              try simp only [Act.put, List.setIfInBounds_toArray, List.set_cons_zero, List.set_cons_succ]
              refine lex_not 4 _ (hasId (lid L3) (tt j t).id L3.length) rfl rfl rfl ?_
              refine lex_nil (NoPanic.normal ?_)
              have HW1 := hide (And.intro (HV.out.1.below hb1 (Nat.le_refl _)) (And.intro HV.out.2.1 (HV.out.2.2.1.trans (hb1.mono HV.out.2.2.1.size))))
              have HM : ∀ y, ((InW wid k y ∨ InT tn tt j y) ∨ InR (tt j) (t + 1) y) → (((InW wid k y ∨ InT tn tt j y) ∨ InR (tt j) t y) ∨ y = (tt j t).id) := fun y hy => by
                rcases hy with hy | ⟨i, hi, e⟩
                · exact .inl (.inl hy)
                · by_cases h2 : i < t
                  · exact .inl (.inr ⟨i, h2, e⟩)
                  · have : i = t := by omega
                    subst this
                    exact .inr e.symm
              have HM2 := hide HM
              clear hra HV hb1 HM
              cases hq : hasId (lid L3) (tt j t).id L3.length with
              | true =>
                have HQ := hide ((hasId_mem L3 (tt j t).id).1 hq)
                clear hq hra1
                go_wp2
                go_roundw
                case rel => exact ⟨t + 1, L3, by omega, by go_num, HW1.out.1, HW1.out.2.1.same HQ.out HM2.out, HW1.out.2.2⟩
                case measure => simp [intOf]; omega
              | false =>
                have HQ := hide (show (tt j t).id ∉ L3 from fun h => by rw [(hasId_mem L3 (tt j t).id).2 h] at hq; cases hq)
                clear hq
                go_upto_region 15 with fail
                obtain ⟨v2, w2, hap, hown2, _, _, hgr2, hb2⟩ := append_id Trym.underlying28 e34 28 HW1.out.1 hlk3 (by omega) (HW1.out.2.2.size)
                have hra2 : w2.rangeAt b2 (off2 + t * 43 + 0) (idc (tt j t).id) := rangeAt_below hb2 hbw2 hra1
                have HW2 := hide (And.intro hown2 (HW1.out.2.2.trans hb2))
                clear hown2 hgr2 hb2
                refine wp_region_lexp (fun w' => w'.rangeAt b2 (off2 + t * 43 + 0) (idc (tt j t).id)) hra1 ?_
                refine lex_mv u5 _ rfl rfl rfl ?_
                simp only [Act.put, List.setIfInBounds_toArray, List.set_cons_zero, List.set_cons_succ]
                refine lex_mv (.slice (some ⟨b2, off2, none⟩) (tn j) ct') _ rfl rfl rfl ?_
                simp only [Act.put, List.setIfInBounds_toArray, List.set_cons_zero, List.set_cons_succ]
                refine lex_mv (.int .i64 (t : Int)) _ rfl rfl rfl ?_
                simp only [Act.put, List.setIfInBounds_toArray, List.set_cons_zero, List.set_cons_succ]
                refine lex_index 49 60 _ _ b2 off2 (tn j) ct' t 43 rfl rfl rfl rfl hlt2 Trym.underlying49 i60 ?_
                simp only [Act.put, List.setIfInBounds_toArray, List.set_cons_zero, List.set_cons_succ]
                refine lex_field 60 _ 0 b2 (off2 + t * 43) 0 _ _ rfl rfl rfl Trym.underlying60 rfl i34 rfl ?_
                simp only [Act.put, List.setIfInBounds_toArray, List.set_cons_zero, List.set_cons_succ]
                refine lex_load 34 _ b2 (off2 + t * 43 + 0) (idc (tt j t).id) _ rfl rfl rfl (fun _ h => h) Trym.underlying34 rfl (by rw [i34, idc_length, hlk3]) ?_
                simp only [Act.put, List.setIfInBounds_toArray, List.set_cons_zero, List.set_cons_succ]
                refine lex_bslice 28 1 _ #[(0, .agg (idc (tt j t).id).toArray)] _ _ rfl rfl rfl rfl (one_slice Trym.underlying28 e34 (by omega) (by omega) _ (by rw [idc_length, hlk3]) w1) (World.rangeAt_alloc hra1 _) ?_
                simp only [Act.put, List.setIfInBounds_toArray, List.set_cons_zero, List.set_cons_succ]
                refine lex_append 28 _ _ u5 (.slice (some ⟨w1.heap.size, 0, none⟩) 1 1) v2 w2 rfl rfl rfl rfl rfl hap hra2 ?_
                simp only [Act.put, List.setIfInBounds_toArray, List.set_cons_zero, List.set_cons_succ]
                refine lex_as v2 _ rfl rfl rfl ?_
                simp only [Act.put, List.setIfInBounds_toArray, List.set_cons_zero, List.set_cons_succ]
                refine lex_nil (NoPanic.normal ?_)
                clear hap hra1 hra2
                go_wp2
                go_roundw
                case rel => exact ⟨t + 1, L3 ++ [(tt j t).id], by omega, by go_num, HW2.out.1, HW1.out.2.1.more HQ.out HM2.out, HW2.out.2⟩
                case measure => simp [intOf]; omega
            · have htn : t = tn j := by omega
              have HV := hide (And.intro hown (And.intro hlist (And.intro hbel htn)))
              have hge : ¬ ((t : Nat) : Int) < ((tn j : Nat) : Int) := by omega
              clear hown hlist hbel htn hlt2
              go_wp2
              go_roundw
              case rel => exact ⟨j + 1, L3, by omega, by go_num, HV.out.1, ⟨HV.out.2.1.nd, by
                  have h1 := HV.out.2.1.len
                  have h2 := HW.out.2.2.2.2.2
                  have h3 := HV.out.2.2.2
                  omega, fun x hx => HV.out.2.1.must x (by
                  rcases hx with hx | ⟨i, q, hi, hq, e⟩
                  · exact .inl (.inl hx)
                  · by_cases h2 : i < j
                    · exact .inl (.inr ⟨i, q, h2, hq, e⟩)
                    · have : i = j := by omega
                      subst this
                      exact .inr ⟨q, by rw [HV.out.2.2.2]; exact hq, e⟩)⟩, HV.out.2.2.1⟩
              case measure => simp [intOf]; omega
        · have : j = nb := by omega
          subst this
          have HW := hide (And.intro hown (And.intro hlist hbel))
          clear hown hlist hbel
          go_wp2
          go_ret
          exact ⟨_, L2, rfl, HW.out.1.view, ⟨HW.out.2.1.nd, by
            have h1 := HW.out.2.1.len
            have h2 := HR.out.2.2.2.2.2
            omega, HW.out.2.1.must⟩, HW.out.2.2⟩

end Go.Proofs.Qxb6601415aMods
