import Derived.Test.Qxb6601415aModsZ5
namespace Go.Proofs.Qxb6601415aMods
open Go.RowKit Go.Extern.Stop Go.Maps Go.ChangeMaps
set_option linter.unusedVariables false
set_option linter.unusedSimpArgs false
set_option maxRecDepth 20000
attribute [local irreducible] Lex

theorem sizeOK_any (v : Value) (nb : Nat) (bid : Nat → List UInt8) (ta : Nat → Option Addr) (tn tc : Nat → Nat) (a1 a2 : Option Addr) (l1 c1 l2 c2 : Nat) (w : World) (hn : nb ≤ 4096) (h1 : l1 ≤ 4096) (h2 : l2 ≤ 4096) (h : BasesV w v nb bid (fun i => .slice (ta i) (tn i) (tc i))) :
    Calls Trym.prog 17 #[v, .slice a1 l1 c1, .slice a2 l2 c2] w fun e w' => SizeOK tn nb e ∧ Below w.heap.size w w' := by
  obtain ⟨⟨rfl, rfl⟩ | ⟨b, off, cap, rfl, hr⟩, hl⟩ := h
  · exact sizeOK_nil tn a1 a2 l1 c1 l2 c2 w h1 h2
  · exact sizeOK_some b off nb cap bid ta tn tc a1 a2 l1 c1 l2 c2 w hn h1 h2 hl hr

theorem tk_next {w : World} {gt nb k : Nat} {p : Nat → Bool} {b : Bool} (hwb : WB w gt 4 nb) (h : ∀ i, i < k → w.cell? ⟨gt, i, none⟩ = some (.bool (p i))) (hk : k < nb) (hb : p k = b) :
    WB (w.setCells gt (0 + k * 1) [.bool b]) gt 4 nb ∧ ∀ i, i < k + 1 → (w.setCells gt (0 + k * 1) [.bool b]).cell? ⟨gt, i, none⟩ = some (.bool (p i)) := by
  refine ⟨hwb.setCells _ _, fun i hi => ?_⟩
  rw [show 0 + k * 1 = k by omega]
  obtain ⟨u9, hu9⟩ := hwb.cell hk
  by_cases h9 : i = k
  · subst h9
    rw [hb]
    exact World.cell?_setCell_same w ⟨gt, i, none⟩ _ hu9
  · exact (World.cell?_setCell_other w ⟨gt, k, none⟩ ⟨gt, i, none⟩ _ (fun h => h9 (Addr.mk.inj h).2.1.symm)).trans (h i (by omega))

theorem cloneIDs_cap (v : Value) (n : Nat) (ids : Nat → List UInt8) (w : World) (hn : n ≤ 4096) (h : IdsV w v n ids) :
    Calls Trym.prog 13 #[v] w fun e w' => ∃ v', e = .returned v' ∧ IdsV w' v' n ids ∧ (∀ a m c, v' = .slice a m c → c = m) ∧ Below w.heap.size w w' := by
  obtain ⟨⟨rfl, rfl⟩ | ⟨b, off, cap, rfl, hr⟩, hl⟩ := h
  · exact (cloneIDs_nil w).mono fun e w' ⟨he, hw⟩ => ⟨_, he, ⟨.inl ⟨rfl, rfl⟩, hl⟩, fun a m c e => by simp at e; omega, hw ▸ Below.refl _ _⟩
  · exact (cloneIDs_some b off n cap _ w hn (fun i hi => by rw [idc_length, hl i hi]) (fun i _ => idc_one _) hr).mono fun e w' ⟨he, _, hr', hB⟩ => ⟨_, he, ⟨.inr ⟨_, 0, n, rfl, hr'⟩, hl⟩, fun a m c e => by simp at e; omega, hB⟩
theorem run_slice_to {b off n k : Nat} (hk : k ≤ n) (hn : n ≤ 4096) (w : World) : (Instr.sliceAt 28 (.slice (some ⟨b, off, none⟩) n n) none (some (.int .i64 (k : Int))) none).run Trym.prog w = .ok (.slice (some ⟨b, off, none⟩) k n) w := by
  have h1 : (k : Int) ≤ (n : Int) := by omega
  simp [go_sem, Trym.underlying28, h1, hk]
section
variable {P : Program} {ops : Array Oper} {Q : Exit → Act → World → Prop} {S : World → Prop} {pl : Bool} {k : Nat} {o : Oper} {rest : List Oper} {a : Act} {w : World}
theorem lex_slice (t : TypeId) (x y : Operand) (u v r : Value) (hw : Region.wanted o (yielded ops a.tmps) = true) (ho : o.op = .slice t x none (some y) none) (hx : a.eval x = u) (hy : a.eval y = v) (hr : ∀ w, (Instr.sliceAt t u none (some v) none).run P w = .ok r w)
    (h : Lex P pl ops Q S (k + 1) rest (a.put o.dst r) w) : Lex P pl ops Q S k (o :: rest) a w :=
  lex_take hw (fun w _ => by
    unfold execOp
    simp only [ho, Option.map_none, Option.map_some, hx, hy, Sem.run_bind, hr w, Result.andThen_ok, Sem.run_pure]) h
end

theorem trees_view60 {w : World} {B : Nat} {v : Value} {R : List Tr} (h : OwnW w B 60 43 v (R.map trc)) (hR : ∀ t ∈ R, t.ok) : TreesV w v R.length (trl R) := by
  have hs := h.sl
  rw [List.length_map] at hs
  have e : ∀ i, i < R.length → (R.map trc).getD i [] = trc (trl R i) := fun i hi => by simp [List.getD_eq_getElem?_getD, hi, trl_get hi]
  refine ⟨?_, fun i hi => by rw [trl_get hi]; exact hR _ (List.getElem_mem hi)⟩
  rcases hs with hs | ⟨b, off, cap, rfl, hr⟩
  · exact .inl hs
  · exact .inr ⟨b, off, cap, rfl, fun i hi => by
      show World.rangeAt _ _ _ (trc (trl R i))
      rw [← e i hi]; exact hr i hi⟩
theorem neq_nil49 (w : World) : (binOp .neq 49 (.slice none 0 0) (.slice none 0 0)).run Trym.prog w = .ok (.bool false) w := by
  have h := Lib.run_eql_slice_nil (P := Trym.prog) w 49 60 none 0 0 0 0 Trym.underlying49
  simp only [binOp, Sem.run_bind] at h ⊢
  cases hq : (Op.equal 49 (.slice none 0 0) (.slice none 0 0)).run Trym.prog w with
  | ok r w' => rw [hq] at h; simp only [Result.andThen_ok, Sem.run_pure] at h ⊢; cases h; rfl
  | halt r w' => rw [hq] at h; simp [Result.andThen] at h

theorem kcnt_le {bid : Nat → List UInt8} {tn : Nat → Nat} {tt : Nat → Nat → Tr} {wid : Nat → List UInt8} {wn : Nat → Int} {nw : Nat} {ids : Nat → List UInt8} {n nb : Nat} (x : List UInt8) (htn : ∀ i, i < nb → tn i ≤ 4096) : ∀ e, e ≤ nb → kcnt bid tn tt wid wn nw ids n x e ≤ e * 4096
  | 0, _ => by simp [kcnt]
  | e + 1, he => by
    have ih := kcnt_le (bid := bid) (tn := tn) (tt := tt) (wid := wid) (wn := wn) (nw := nw) (ids := ids) (n := n) x htn e (by omega)
    have hc : ∀ m, cntT (tt e) x m ≤ m := fun m => by
      induction m with
      | zero => simp [cntT]
      | succ m ih2 =>
        rw [cntT]
        split <;> omega
    have h1 := hc (tn e)
    have h2 := htn e (by omega)
    rw [kcnt]
    split <;> omega
theorem presN_le (G : List UInt8 → Option Int) (pid : Nat → List UInt8) : ∀ m, presN G pid m ≤ m
  | 0 => by simp [presN]
  | m + 1 => by
    have := presN_le G pid m
    rw [presN]
    split <;> omega
theorem cntT_le (ts : Nat → Tr) (x : List UInt8) : ∀ m, cntT ts x m ≤ m
  | 0 => by simp [cntT]
  | m + 1 => by
    have := cntT_le ts x m
    rw [cntT]
    split <;> omega

theorem neq_nil28 (a : Option Addr) (n c : Nat) (w : World) : (binOp .neq 28 (.slice a n c) (.slice none 0 0)).run Trym.prog w = .ok (.bool a.isSome) w := by
  have h := Lib.run_eql_slice_nil (P := Trym.prog) w 28 34 a n c 0 0 Trym.underlying28
  simp only [binOp, Sem.run_bind] at h ⊢
  cases hq : (Op.equal 28 (.slice a n c) (.slice none 0 0)).run Trym.prog w with
  | ok r w' => rw [hq] at h; simp only [Result.andThen_ok, Sem.run_pure] at h ⊢; cases a <;> cases h <;> rfl
  | halt r w' => rw [hq] at h; simp [Result.andThen] at h

set_option maxHeartbeats 16000000 in
theorem law_part (vb vi vw : Value) (nb n nw : Nat) (bid ids : Nat → List UInt8) (ta : Nat → Option Addr) (tn tc : Nat → Nat) (tt : Nat → Nat → Tr) (wid : Nat → List UInt8) (wn : Nat → Int) (w : World) (hnb : nb ≤ 4096) (hn : n ≤ 4096) (hnw : nw ≤ 4096)
    (hb : BasesV w vb nb bid (fun i => .slice (ta i) (tn i) (tc i))) (hts : ∀ i, i < nb → TreesW w (.slice (ta i) (tn i) (tc i)) (tn i) (tt i)) (hi : IdsV w vi n ids) (hw : WaitsV w vw nw wid wn) :
    Calls Trym.prog 5 #[vb, vi, vw] w fun e w' => e = .returned (.bool true) ∧ Below w.heap.size w w' := by
  obtain ⟨ab, cb, rfl, _⟩ := hb.1.open
  obtain ⟨ai, ci, rfl, _⟩ := hi.1.open
  obtain ⟨aw, cw, rfl, _⟩ := hw.1.open
  have HV := hide (And.intro hb (And.intro hts (And.intro hi hw)))
  clear hb hts hi hw
  have hnb' : ¬ (4096 : Int) < (nb : Int) := by omega
  have hn' : ¬ (4096 : Int) < (n : Int) := by omega
  have hnw' : ¬ (4096 : Int) < (nw : Int) := by omega
  go_enter Trym.func5, Trym.ntmps5
  go_upto_region 3 with fail
  clear hnb' hn' hnw'
  refine wp_region_lexp (fun w' => True) trivial ?_
  refine lex_mv (.slice ab nb cb) _ rfl rfl rfl ?_
  simp only [Act.put, List.setIfInBounds_toArray, List.set_cons_zero, List.set_cons_succ]
  refine lex_mv (.slice ai n ci) _ rfl rfl rfl ?_
  simp only [Act.put, List.setIfInBounds_toArray, List.set_cons_zero, List.set_cons_succ]
  refine lex_mv (.slice aw nw cw) _ rfl rfl rfl ?_
  simp only [Act.put, List.setIfInBounds_toArray, List.set_cons_zero, List.set_cons_succ]
  refine lex_solek rfl rfl (fun K hK => ?_)
  go_simp
  refine (sizeOK_any _ nb bid ta tn tc ai aw n ci nw cw w hnb hn hnw HV.out.1).mono ?_
  rintro e w1 ⟨⟨r17, rfl, hr17⟩, hb1⟩
  refine hK.out _ _ trivial ?_
  clear hK
  try simp only [Act.put, List.setIfInBounds_toArray, List.set_cons_zero, List.set_cons_succ]
  refine lex_not 4 _ r17 rfl rfl rfl ?_
  simp only [Act.put, List.setIfInBounds_toArray, List.set_cons_zero, List.set_cons_succ]
  refine lex_nil (NoPanic.normal ?_)
  have HB1 := hide hb1
  clear hb1
  cases r17 with
  | false =>
    clear hr17
    go_wp2
    go_ret
    exact ⟨rfl, HB1.out⟩
  | true =>
    have H17 := hide (hr17 rfl)
    clear hr17
    go_upto_region 5 with fail
    refine wp_region_lexp (fun w' => True) trivial ?_
    refine lex_mv (.slice ab nb cb) _ rfl rfl rfl ?_
    simp only [Act.put, List.setIfInBounds_toArray, List.set_cons_zero, List.set_cons_succ]
    refine lex_solek rfl rfl (fun K hK => ?_)
    go_simp
    refine (distB_any _ nb bid _ w1 hnb (HV.out.1.below HB1.out (Nat.le_refl _))).mono ?_
    rintro e w2 ⟨⟨r18, rfl, hr18⟩, hb2⟩
    refine hK.out _ _ trivial ?_
    clear hK
    try simp only [Act.put, List.setIfInBounds_toArray, List.set_cons_zero, List.set_cons_succ]
    have HB2 := hide (HB1.out.trans (hb2.mono HB1.out.size))
    clear hb2 HB1
    cases r18 with
    | false =>
      clear hr18
      refine lex_not 4 _ false rfl rfl rfl ?_
      simp only [Act.put, List.setIfInBounds_toArray, List.set_cons_zero, List.set_cons_succ]
      refine lex_mv (.bool true) _ rfl rfl rfl ?_
      simp only [Act.put, List.setIfInBounds_toArray, List.set_cons_zero, List.set_cons_succ]
      refine lex_skip (by kernel_rfl) ?_
      simp only [Act.put, List.setIfInBounds_toArray, List.set_cons_zero, List.set_cons_succ]
      refine lex_skip (by kernel_rfl) ?_
      simp only [Act.put, List.setIfInBounds_toArray, List.set_cons_zero, List.set_cons_succ]
      refine lex_skip (by kernel_rfl) ?_
      simp only [Act.put, List.setIfInBounds_toArray, List.set_cons_zero, List.set_cons_succ]
      refine lex_pickT _ _ _ (.bool true) rfl rfl rfl rfl ?_
      simp only [Act.put, List.setIfInBounds_toArray, List.set_cons_zero, List.set_cons_succ]
      refine lex_nil (NoPanic.normal ?_)
      go_wp2
      go_ret
      exact ⟨rfl, HB2.out⟩
    | true =>
      have H18 := hide (hr18 rfl)
      clear hr18
      refine lex_not 4 _ true rfl rfl rfl ?_
      simp only [Act.put, List.setIfInBounds_toArray, List.set_cons_zero, List.set_cons_succ]
      refine lex_mv (.bool false) _ rfl rfl rfl ?_
      simp only [Act.put, List.setIfInBounds_toArray, List.set_cons_zero, List.set_cons_succ]
      refine lex_mv (.slice aw nw cw) _ (by kernel_rfl) rfl rfl ?_
      simp only [Act.put, List.setIfInBounds_toArray, List.set_cons_zero, List.set_cons_succ]
      refine lex_solek rfl (by kernel_rfl) (fun K hK => ?_)
      go_simp
      refine (distW_any _ nw wid wn w2 hnw (HV.out.2.2.2.below HB2.out (Nat.le_refl _))).mono ?_
      rintro e w3 ⟨⟨r19, rfl, hr19⟩, hb3⟩
      refine hK.out _ _ trivial ?_
      clear hK
      try simp only [Act.put, List.setIfInBounds_toArray, List.set_cons_zero, List.set_cons_succ]
      have HB3 := hide (HB2.out.trans (hb3.mono HB2.out.size))
      clear hb3 HB2
      refine lex_not 4 _ r19 (by kernel_rfl) rfl rfl ?_
      simp only [Act.put, List.setIfInBounds_toArray, List.set_cons_zero, List.set_cons_succ]
      refine lex_pickF _ _ _ (.bool (!r19)) rfl rfl rfl rfl ?_
      simp only [Act.put, List.setIfInBounds_toArray, List.set_cons_zero, List.set_cons_succ]
      refine lex_nil (NoPanic.normal ?_)
      cases r19 with
      | false =>
        clear hr19
        go_wp2
        go_ret
        exact ⟨rfl, HB3.out⟩
      | true =>
        have H19 := hide (hr19 rfl)
        clear hr19
        go_upto_region 7 with fail
        have htn : ∀ i, i < nb → tn i ≤ 4096 := fun i hi => Nat.le_trans (psum_le hi) H17.out
        have HTN := hide htn
        clear htn
        refine wp_region_lexp (fun w' => True) trivial ?_
        refine lex_mv (.slice ab nb cb) _ rfl rfl rfl ?_
        simp only [Act.put, List.setIfInBounds_toArray, List.set_cons_zero, List.set_cons_succ]
        refine lex_solek rfl rfl (fun K hK => ?_)
        go_simp
        refine (cloneB_any _ nb bid (fun i => .slice (ta i) (tn i) (tc i)) tn tt w3 hnb (HV.out.1.below HB3.out (Nat.le_refl _)) (fun i hi => (HV.out.2.1 i hi).below HB3.out (Nat.le_refl _)) HTN.out).mono ?_
        rintro e w4 ⟨vb4, tv, rfl, hvb4, hkept4, hb4⟩
        refine hK.out _ _ trivial ?_
        clear hK
        try simp only [Act.put, List.setIfInBounds_toArray, List.set_cons_zero, List.set_cons_succ]
        refine lex_as vb4 _ rfl rfl rfl ?_
        simp only [Act.put, List.setIfInBounds_toArray, List.set_cons_zero, List.set_cons_succ]
        refine lex_nil (NoPanic.normal ?_)
        have HB4 := hide (And.intro (HB3.out.trans (hb4.mono HB3.out.size)) (And.intro hvb4 hkept4))
        clear hb4 hvb4 hkept4 HB3
        go_upto_region 8 with fail
        refine wp_region_lexp (fun w' => True) trivial ?_
        refine lex_mv (.slice ai n ci) _ rfl rfl rfl ?_
        simp only [Act.put, List.setIfInBounds_toArray, List.set_cons_zero, List.set_cons_succ]
        refine lex_solek rfl rfl (fun K hK => ?_)
        go_simp
        refine (cloneIDs_cap _ n ids w4 hn (HV.out.2.2.1.below HB4.out.1 (Nat.le_refl _))).mono ?_
        rintro e w5 ⟨vi5, rfl, hvi5, hcap5, hb5⟩
        refine hK.out _ _ trivial ?_
        clear hK
        try simp only [Act.put, List.setIfInBounds_toArray, List.set_cons_zero, List.set_cons_succ]
        refine lex_as vi5 _ rfl rfl rfl ?_
        simp only [Act.put, List.setIfInBounds_toArray, List.set_cons_zero, List.set_cons_succ]
        refine lex_nil (NoPanic.normal ?_)
        have HB5 := hide (And.intro (HB4.out.1.trans (hb5.mono HB4.out.1.size)) (And.intro (HB4.out.2.1.below hb5 (Nat.le_refl _)) (And.intro (HB4.out.2.2.below hb5 (Nat.le_refl _)) hvi5)))
        have HCAP := hide hcap5
        clear hb5 hvi5 HB4 hcap5
        go_upto_region 9 with fail
        refine wp_region_lexp (fun w' => True) trivial ?_
        refine lex_mv (.slice aw nw cw) _ rfl rfl rfl ?_
        simp only [Act.put, List.setIfInBounds_toArray, List.set_cons_zero, List.set_cons_succ]
        refine lex_solek rfl rfl (fun K hK => ?_)
        go_simp
        refine (cloneWaits_any _ nw wid wn w5 hnw (HV.out.2.2.2.below HB5.out.1 (Nat.le_refl _))).mono ?_
        rintro e w6 ⟨vw6, rfl, hvw6, _, _, hb6⟩
        refine hK.out _ _ trivial ?_
        clear hK
        try simp only [Act.put, List.setIfInBounds_toArray, List.set_cons_zero, List.set_cons_succ]
        refine lex_as vw6 _ rfl rfl rfl ?_
        simp only [Act.put, List.setIfInBounds_toArray, List.set_cons_zero, List.set_cons_succ]
        refine lex_nil (NoPanic.normal ?_)
        have HB6 := hide (show Below w.heap.size w w6 ∧ BasesV w6 vb4 nb bid tv ∧ (∀ i, i < nb → TreesV w6 (tv i) (tn i) (tt i)) ∧ IdsV w6 vi5 n ids ∧ WaitsV w6 vw6 nw wid wn from ⟨HB5.out.1.trans (hb6.mono HB5.out.1.size), HB5.out.2.1.below hb6 (Nat.le_refl _), fun i hi => (HB5.out.2.2.1 i hi).1.below hb6 (Nat.le_refl _), HB5.out.2.2.2.below hb6 (Nat.le_refl _), hvw6⟩)
        clear hb6 hvw6 HB5 HV
        obtain ⟨ab4, cb4, rfl, hbo⟩ := HB6.out.2.1.1.open
        obtain ⟨ai5, ci5, rfl, hio⟩ := HB6.out.2.2.2.1.1.open
        obtain ⟨aw6, cw6, rfl, hwo⟩ := HB6.out.2.2.2.2.1.open
        have hci : n = ci5 := (HCAP.out _ _ _ rfl).symm
        subst hci
        clear HCAP
        have HO := hide (And.intro hbo (And.intro hio hwo))
        clear hbo hio hwo
        obtain ⟨C, hC, hmk⟩ := make_wide Trym.underlying46 f4 (by omega) nb (by omega)
        go_wp2
        clear hmk
        have hwbA : WB (w6.alloc (.cells C 4)) w6.heap.size 4 nb := WB_new _ _ _ (by rw [hC]; omega)
        have hkA : Below w6.heap.size w6 (w6.alloc (.cells C 4)) := (Below.refl _ _).alloc (Nat.le_refl _) _
        have HA := hide (And.intro hwbA hkA)
        clear hwbA hkA hC
        generalize w6.alloc (.cells C 4) = X0 at *
        generalize hgt : w6.heap.size = gt at *
        go_loopw [8] (fun i wr => ∃ k : Nat, k ≤ nb ∧ i = .int .i64 k ∧ WB wr gt 4 nb ∧ (∀ i, i < k → wr.cell? ⟨gt, i, none⟩ = some (.bool (tk bid wid wn nw ids n i))) ∧ Below gt w6 wr) (fun i _ => nb - (intOf i).toNat)
        case atStart => exact ⟨0, Nat.zero_le _, rfl, HA.out.1, fun i hi => absurd hi (by omega), HA.out.2⟩
        case round =>
          obtain ⟨k, hk, rfl, hwb, htk, hbel⟩ := hrel
          clear HA
          by_cases hlt : k < nb
          · obtain ⟨b, off, rfl, hrow⟩ := HO.out.1 k hlt
            have hlx := HB6.out.2.1.2 k hlt
            have hra0 := hrow k hlt
            have hbw : b < gt := by rw [← hgt]; exact rangeAt_lt hra0 (by simp [ent])
            have hra : wr.rangeAt b (off + k * 21 + 0) (idc (bid k)) := rangeAt_left (rangeAt_below hbel hbw hra0)
            have hgtw : gt < wr.heap.size := hwb.lt
            have HW := hide (And.intro hwb (And.intro htk hbel))
            clear hwb htk hbel hra0 hrow
            go_upto_region 14 with fail
            refine wp_region_lexp (fun w' => True) trivial ?_
            refine lex_mv (.slice aw6 nw cw6) _ rfl rfl rfl ?_
            simp only [Act.put, List.setIfInBounds_toArray, List.set_cons_zero, List.set_cons_succ]
            refine lex_mv (.slice (some ⟨b, off, none⟩) nb cb4) _ rfl rfl rfl ?_
            simp only [Act.put, List.setIfInBounds_toArray, List.set_cons_zero, List.set_cons_succ]
            refine lex_mv (.int .i64 (k : Int)) _ rfl rfl rfl ?_
            simp only [Act.put, List.setIfInBounds_toArray, List.set_cons_zero, List.set_cons_succ]
            refine lex_index 39 50 _ _ b off nb cb4 k 21 rfl rfl rfl rfl hlt Trym.underlying39 i50 ?_
            simp only [Act.put, List.setIfInBounds_toArray, List.set_cons_zero, List.set_cons_succ]
            refine lex_field 50 _ 0 b (off + k * 21) 0 _ _ rfl rfl rfl Trym.underlying50 rfl i34 rfl ?_
            simp only [Act.put, List.setIfInBounds_toArray, List.set_cons_zero, List.set_cons_succ]
            refine lex_loadx 34 _ b (off + k * 21 + 0) (idc (bid k)) _ rfl rfl rfl rfl hra Trym.underlying34 rfl (by rw [i34, idc_length, hlx]) trivial ?_
            simp only [Act.put, List.setIfInBounds_toArray, List.set_cons_zero, List.set_cons_succ]
            refine lex_solek rfl rfl (fun K hK => ?_)
            go_simp
            refine (waitOf_any _ nw wid wn (bid k) wr hnw hlx (HB6.out.2.2.2.2.below HW.out.2.2 (by omega))).mono ?_
            rintro e wa ⟨rfl, hba⟩
            refine hK.out _ _ trivial ?_
            clear hK
            try simp only [Act.put, List.setIfInBounds_toArray, List.set_cons_zero, List.set_cons_succ]
            refine lex_mv (.tuple #[.int .i64 (waitN wid wn nw (bid k)), .bool (waitIn wid nw (bid k))]) _ rfl rfl rfl ?_
            simp only [Act.put, List.setIfInBounds_toArray, List.set_cons_zero, List.set_cons_succ]
            refine lex_extract _ 0 #[.int .i64 (waitN wid wn nw (bid k)), .bool (waitIn wid nw (bid k))] (.int .i64 (waitN wid wn nw (bid k))) rfl rfl rfl rfl ?_
            simp only [Act.put, List.setIfInBounds_toArray, List.set_cons_zero, List.set_cons_succ]
            refine lex_extract _ 1 #[.int .i64 (waitN wid wn nw (bid k)), .bool (waitIn wid nw (bid k))] (.bool (waitIn wid nw (bid k))) rfl rfl rfl rfl ?_
            simp only [Act.put, List.setIfInBounds_toArray, List.set_cons_zero, List.set_cons_succ]
            refine lex_as (.int .i64 (waitN wid wn nw (bid k))) _ rfl rfl rfl ?_
            simp only [Act.put, List.setIfInBounds_toArray, List.set_cons_zero, List.set_cons_succ]
            refine lex_as (.bool (waitIn wid nw (bid k))) _ rfl rfl rfl ?_
            simp only [Act.put, List.setIfInBounds_toArray, List.set_cons_zero, List.set_cons_succ]
            refine lex_nil (NoPanic.normal ?_)
            have hraa := rangeAt_below hba (Nat.lt_trans hbw hgtw) hra
            have hwba := HW.out.1.below hba hgtw
            have htka : ∀ i, i < k → wa.cell? ⟨gt, i, none⟩ = some (.bool (tk bid wid wn nw ids n i)) := fun i hi => (hba.cell (p := ⟨gt, i, none⟩) hgtw).trans (HW.out.2.1 i hi)
            have hbela : Below gt w6 wa := HW.out.2.2.trans (hba.mono (Nat.le_of_lt hgtw))
            have hgta : gt < wa.heap.size := hwba.lt
            have HWa := hide (And.intro hwba (And.intro htka hbela))
            clear hwba htka hbela HW hra hba hgtw
            have htkk : Hid (tk bid wid wn nw ids n k = ((waitN wid wn nw (bid k) == 0) && hasId ids (bid k) n)) := hide rfl
            go_upto_region 15 with fail
            refine wp_region_lexp (fun w' => True) trivial ?_
            refine lex_mv (.slice (some ⟨gt, 0, none⟩) nb nb) _ rfl rfl rfl ?_
            simp only [Act.put, List.setIfInBounds_toArray, List.set_cons_zero, List.set_cons_succ]
            refine lex_mv (.int .i64 (k : Int)) _ rfl rfl rfl ?_
            simp only [Act.put, List.setIfInBounds_toArray, List.set_cons_zero, List.set_cons_succ]
            refine lex_mv (.int .i64 (waitN wid wn nw (bid k))) _ rfl rfl rfl ?_
            simp only [Act.put, List.setIfInBounds_toArray, List.set_cons_zero, List.set_cons_succ]
            refine lex_eqi 3 3 _ _ (waitN wid wn nw (bid k)) 0 rfl rfl rfl rfl Trym.underlying3 ?_
            simp only [Act.put, List.setIfInBounds_toArray, List.set_cons_zero, List.set_cons_succ]
            cases hq : (waitN wid wn nw (bid k) == 0) with
            | false =>
              have hth : wa.there gt (0 + k * 1) 1 := HWa.out.1.there (by omega)
              refine lex_mv (.bool false) _ rfl rfl rfl ?_
              simp only [Act.put, List.setIfInBounds_toArray, List.set_cons_zero, List.set_cons_succ]
              refine lex_skip (by kernel_rfl) ?_
              simp only [Act.put, List.setIfInBounds_toArray, List.set_cons_zero, List.set_cons_succ]
              refine lex_skip (by kernel_rfl) ?_
              simp only [Act.put, List.setIfInBounds_toArray, List.set_cons_zero, List.set_cons_succ]
              refine lex_skip (by kernel_rfl) ?_
              simp only [Act.put, List.setIfInBounds_toArray, List.set_cons_zero, List.set_cons_succ]
              refine lex_skip (by kernel_rfl) ?_
              simp only [Act.put, List.setIfInBounds_toArray, List.set_cons_zero, List.set_cons_succ]
              refine lex_skip (by kernel_rfl) ?_
              simp only [Act.put, List.setIfInBounds_toArray, List.set_cons_zero, List.set_cons_succ]
              refine lex_skip (by kernel_rfl) ?_
              simp only [Act.put, List.setIfInBounds_toArray, List.set_cons_zero, List.set_cons_succ]
              refine lex_skip (by kernel_rfl) ?_
              simp only [Act.put, List.setIfInBounds_toArray, List.set_cons_zero, List.set_cons_succ]
              refine lex_pickF _ _ _ (.bool false) rfl rfl rfl rfl ?_
              simp only [Act.put, List.setIfInBounds_toArray, List.set_cons_zero, List.set_cons_succ]
              refine lex_index 46 4 _ _ gt 0 nb nb k 1 rfl rfl rfl rfl hlt Trym.underlying46 i4 ?_
              simp only [Act.put, List.setIfInBounds_toArray, List.set_cons_zero, List.set_cons_succ]
              refine lex_store1 4 _ _ gt (0 + k * 1) (.bool false) rfl rfl rfl rfl rfl rfl rfl i4 hth trivial ?_
              simp only [Act.put, List.setIfInBounds_toArray, List.set_cons_zero, List.set_cons_succ]
              refine lex_nil (NoPanic.normal ?_)
              have hnext := tk_next HWa.out.1 HWa.out.2.1 hlt (b := false) (by rw [htkk.out, hq]; rfl)
              have HN := hide (And.intro hnext (below_setCells (Nat.le_refl gt) [.bool false] (0 + k * 1) wa HWa.out.2.2))
              clear hnext hth hraa hq
              generalize wa.setCells gt (0 + k * 1) [.bool false] = wn9 at *
              go_wp2
              go_roundw
              case rel => exact ⟨k + 1, by omega, by go_num, HN.out.1.1, HN.out.1.2, HN.out.2⟩
              case measure => simp [intOf]; omega
            | true =>
              refine lex_mv (.bool true) _ rfl rfl rfl ?_
              simp only [Act.put, List.setIfInBounds_toArray, List.set_cons_zero, List.set_cons_succ]
              refine lex_mv (.slice ai5 n n) _ (by kernel_rfl) rfl rfl ?_
              simp only [Act.put, List.setIfInBounds_toArray, List.set_cons_zero, List.set_cons_succ]
              refine lex_mv (.slice (some ⟨b, off, none⟩) nb cb4) _ (by kernel_rfl) rfl rfl ?_
              simp only [Act.put, List.setIfInBounds_toArray, List.set_cons_zero, List.set_cons_succ]
              refine lex_mv (.int .i64 (k : Int)) _ (by kernel_rfl) rfl rfl ?_
              simp only [Act.put, List.setIfInBounds_toArray, List.set_cons_zero, List.set_cons_succ]
              refine lex_index 39 50 _ _ b off nb cb4 k 21 (by kernel_rfl) rfl rfl rfl hlt Trym.underlying39 i50 ?_
              simp only [Act.put, List.setIfInBounds_toArray, List.set_cons_zero, List.set_cons_succ]
              refine lex_field 50 _ 0 b (off + k * 21) 0 _ _ (by kernel_rfl) rfl rfl Trym.underlying50 rfl i34 rfl ?_
              simp only [Act.put, List.setIfInBounds_toArray, List.set_cons_zero, List.set_cons_succ]
              refine lex_loadx 34 _ b (off + k * 21 + 0) (idc (bid k)) _ rfl (by kernel_rfl) rfl rfl hraa Trym.underlying34 rfl (by rw [i34, idc_length, hlx]) trivial ?_
              simp only [Act.put, List.setIfInBounds_toArray, List.set_cons_zero, List.set_cons_succ]
              refine lex_solek rfl (by kernel_rfl) (fun K hK => ?_)
              have hcon := contains_any (.slice ai5 n n) n ids (bid k) wa (by omega) hlx (HB6.out.2.2.2.1.below HWa.out.2.2 (by omega))
              have HCON := hide hcon
              clear hcon
              go_simp
              refine HCON.out.mono ?_
              rintro e wc ⟨rfl, hbc⟩
              refine hK.out _ _ trivial ?_
              clear hK HCON
              try simp only [Act.put, List.setIfInBounds_toArray, List.set_cons_zero, List.set_cons_succ]
              have hwbc := HWa.out.1.below hbc hgta
              have htkc : ∀ i, i < k → wc.cell? ⟨gt, i, none⟩ = some (.bool (tk bid wid wn nw ids n i)) := fun i hi => (hbc.cell (p := ⟨gt, i, none⟩) hgta).trans (HWa.out.2.1 i hi)
              have hbelc : Below gt w6 wc := HWa.out.2.2.trans (hbc.mono (Nat.le_of_lt hgta))
              have hth : wc.there gt (0 + k * 1) 1 := hwbc.there (by omega)
              refine lex_pickT _ _ _ (.bool (hasId ids (bid k) n)) rfl rfl rfl rfl ?_
              simp only [Act.put, List.setIfInBounds_toArray, List.set_cons_zero, List.set_cons_succ]
              refine lex_index 46 4 _ _ gt 0 nb nb k 1 rfl rfl rfl rfl hlt Trym.underlying46 i4 ?_
              simp only [Act.put, List.setIfInBounds_toArray, List.set_cons_zero, List.set_cons_succ]
              refine lex_store1 4 _ _ gt (0 + k * 1) (.bool (hasId ids (bid k) n)) rfl rfl rfl rfl rfl rfl rfl i4 hth trivial ?_
              simp only [Act.put, List.setIfInBounds_toArray, List.set_cons_zero, List.set_cons_succ]
              refine lex_nil (NoPanic.normal ?_)
              have hnext := tk_next hwbc htkc hlt (b := hasId ids (bid k) n) (by rw [htkk.out, hq]; rfl)
              have HN := hide (And.intro hnext (below_setCells (Nat.le_refl gt) [.bool (hasId ids (bid k) n)] (0 + k * 1) wc hbelc))
              clear hnext hth hraa hq hwbc htkc hbelc hbc
              generalize wc.setCells gt (0 + k * 1) [.bool (hasId ids (bid k) n)] = wn9 at *
              go_wp2
              go_roundw
              case rel => exact ⟨k + 1, by omega, by go_num, HN.out.1.1, HN.out.1.2, HN.out.2⟩
              case measure => simp [intOf]; omega
          · have hkn : nb = k := by omega
            subst hkn
            have hgtl : gt < wr.heap.size := hwb.lt
            have HX1 := hide (show BasesV wr (.slice ab4 nb cb4) nb bid tv ∧ (∀ i, i < nb → TreesV wr (tv i) (tn i) (tt i)) ∧ IdsV wr (.slice ai5 n n) n ids ∧ WaitsV wr (.slice aw6 nw cw6) nw wid wn ∧ (∀ i, i < nb → wr.cell? ⟨gt, i, none⟩ = some (.bool (tk bid wid wn nw ids n i))) ∧ Below w.heap.size w wr from ⟨HB6.out.2.1.below hbel (by omega), fun i hi => (HB6.out.2.2.1 i hi).below hbel (by omega), HB6.out.2.2.2.1.below hbel (by omega), HB6.out.2.2.2.2.below hbel (by omega), htk, HB6.out.1.trans (hbel.mono (by rw [← hgt]; exact HB6.out.1.size))⟩)
            clear hwb htk hbel HO HB6 hgt hlt hk
            generalize wr = X1 at *
            go_upto_region 16 with fail
            refine wp_region_lexp (fun w' => True) trivial ?_
            refine lex_mv (.slice ab4 nb cb4) _ rfl rfl rfl ?_
            simp only [Act.put, List.setIfInBounds_toArray, List.set_cons_zero, List.set_cons_succ]
            refine lex_solek rfl rfl (fun K hK => ?_)
            go_simp
            refine (probeB_any _ nb bid tv X1 hnb HX1.out.1).mono ?_
            rintro e X2 ⟨vpb, rfl, hvpb, hbx2⟩
            refine hK.out _ _ trivial ?_
            clear hK
            try simp only [Act.put, List.setIfInBounds_toArray, List.set_cons_zero, List.set_cons_succ]
            refine lex_as vpb _ rfl rfl rfl ?_
            simp only [Act.put, List.setIfInBounds_toArray, List.set_cons_zero, List.set_cons_succ]
            refine lex_nil (NoPanic.normal ?_)
            have HX2 := hide (And.intro hvpb hbx2)
            clear hvpb hbx2
            go_upto_region 17 with fail
            refine wp_region_lexp (fun w' => True) trivial ?_
            refine lex_mv (.slice ab4 nb cb4) _ rfl rfl rfl ?_
            simp only [Act.put, List.setIfInBounds_toArray, List.set_cons_zero, List.set_cons_succ]
            refine lex_mv (.slice aw6 nw cw6) _ rfl rfl rfl ?_
            simp only [Act.put, List.setIfInBounds_toArray, List.set_cons_zero, List.set_cons_succ]
            refine lex_solek rfl rfl (fun K hK => ?_)
            have hpi := probeI_any (.slice ab4 nb cb4) (.slice aw6 nw cw6) nb nw bid tv tn tt wid wn X2 hnb hnw H17.out (HX1.out.1.below HX2.out.2 (Nat.le_refl _)) (fun i hi => (HX1.out.2.1 i hi).below HX2.out.2 (Nat.le_refl _)) (HX1.out.2.2.2.1.below HX2.out.2 (Nat.le_refl _))
            have HPI := hide hpi
            clear hpi
            go_simp
            refine HPI.out.mono ?_
            rintro e X3 ⟨vpi, L, rfl, hvpi, hL, hbx3⟩
            refine hK.out _ _ trivial ?_
            clear hK HPI
            try simp only [Act.put, List.setIfInBounds_toArray, List.set_cons_zero, List.set_cons_succ]
            refine lex_as vpi _ rfl rfl rfl ?_
            simp only [Act.put, List.setIfInBounds_toArray, List.set_cons_zero, List.set_cons_succ]
            refine lex_nil (NoPanic.normal ?_)
            have hLn : L.length ≤ 8192 := hL.len
            have hB13 : Below X1.heap.size X1 X3 := HX2.out.2.trans (hbx3.mono HX2.out.2.size)
            have hzz := zz_any (.slice ab4 nb cb4) (.slice ai5 n n) (.slice aw6 nw cw6) vpb vpi nb n nw L.length bid ids tv tn tt wid wn (lid L) X3 hnb hn hnw (by omega) (HX1.out.1.below hB13 (Nat.le_refl _)) (fun i hi => (HX1.out.2.1 i hi).below hB13 (Nat.le_refl _)) HTN.out (HX1.out.2.2.1.below hB13 (Nat.le_refl _)) (HX1.out.2.2.2.1.below hB13 (Nat.le_refl _)) (HX2.out.1.below hbx3 (Nat.le_refl _)) hvpi H18.out H19.out
            have HZZ := hide hzz
            have HX3 := hide (And.intro hvpi (And.intro hL hB13))
            clear hzz hvpi hL hB13 hbx3 HX2
            go_upto_region 18 with fail
            refine wp_region_lexp (fun w' => True) trivial ?_
            refine lex_mv (.slice ab4 nb cb4) _ rfl rfl rfl ?_
            simp only [Act.put, List.setIfInBounds_toArray, List.set_cons_zero, List.set_cons_succ]
            refine lex_mv (.slice ai5 n n) _ rfl rfl rfl ?_
            simp only [Act.put, List.setIfInBounds_toArray, List.set_cons_zero, List.set_cons_succ]
            refine lex_mv (.slice aw6 nw cw6) _ rfl rfl rfl ?_
            simp only [Act.put, List.setIfInBounds_toArray, List.set_cons_zero, List.set_cons_succ]
            refine lex_mv vpb _ rfl rfl rfl ?_
            simp only [Act.put, List.setIfInBounds_toArray, List.set_cons_zero, List.set_cons_succ]
            refine lex_mv vpi _ rfl rfl rfl ?_
            simp only [Act.put, List.setIfInBounds_toArray, List.set_cons_zero, List.set_cons_succ]
            refine lex_solek rfl rfl (fun K hK => ?_)
            go_simp
            refine HZZ.out.mono ?_
            rintro e X4 ⟨got, ba, bi, bt, bl, wi, wN, wl, rfl, hz, hbx4⟩
            refine hK.out _ _ trivial ?_
            clear hK HZZ
            try simp only [Act.put, List.setIfInBounds_toArray, List.set_cons_zero, List.set_cons_succ]
            refine lex_mv (.tuple #[got, ba, bi, bt, bl, wi, wN, wl]) _ rfl rfl rfl ?_
            simp only [Act.put, List.setIfInBounds_toArray, List.set_cons_zero, List.set_cons_succ]
            refine lex_extract _ 0 #[got, ba, bi, bt, bl, wi, wN, wl] got rfl rfl rfl rfl ?_
            simp only [Act.put, List.setIfInBounds_toArray, List.set_cons_zero, List.set_cons_succ]
            refine lex_extract _ 1 #[got, ba, bi, bt, bl, wi, wN, wl] ba rfl rfl rfl rfl ?_
            simp only [Act.put, List.setIfInBounds_toArray, List.set_cons_zero, List.set_cons_succ]
            refine lex_extract _ 2 #[got, ba, bi, bt, bl, wi, wN, wl] bi rfl rfl rfl rfl ?_
            simp only [Act.put, List.setIfInBounds_toArray, List.set_cons_zero, List.set_cons_succ]
            refine lex_extract _ 3 #[got, ba, bi, bt, bl, wi, wN, wl] bt rfl rfl rfl rfl ?_
            simp only [Act.put, List.setIfInBounds_toArray, List.set_cons_zero, List.set_cons_succ]
            refine lex_extract _ 4 #[got, ba, bi, bt, bl, wi, wN, wl] bl rfl rfl rfl rfl ?_
            simp only [Act.put, List.setIfInBounds_toArray, List.set_cons_zero, List.set_cons_succ]
            refine lex_extract _ 5 #[got, ba, bi, bt, bl, wi, wN, wl] wi rfl rfl rfl rfl ?_
            simp only [Act.put, List.setIfInBounds_toArray, List.set_cons_zero, List.set_cons_succ]
            refine lex_extract _ 6 #[got, ba, bi, bt, bl, wi, wN, wl] wN rfl rfl rfl rfl ?_
            simp only [Act.put, List.setIfInBounds_toArray, List.set_cons_zero, List.set_cons_succ]
            refine lex_extract _ 7 #[got, ba, bi, bt, bl, wi, wN, wl] wl rfl rfl rfl rfl ?_
            simp only [Act.put, List.setIfInBounds_toArray, List.set_cons_zero, List.set_cons_succ]
            refine lex_as got _ rfl rfl rfl ?_
            simp only [Act.put, List.setIfInBounds_toArray, List.set_cons_zero, List.set_cons_succ]
            refine lex_as ba _ rfl rfl rfl ?_
            simp only [Act.put, List.setIfInBounds_toArray, List.set_cons_zero, List.set_cons_succ]
            refine lex_as bi _ rfl rfl rfl ?_
            simp only [Act.put, List.setIfInBounds_toArray, List.set_cons_zero, List.set_cons_succ]
            refine lex_as bt _ rfl rfl rfl ?_
            simp only [Act.put, List.setIfInBounds_toArray, List.set_cons_zero, List.set_cons_succ]
            refine lex_as bl _ rfl rfl rfl ?_
            simp only [Act.put, List.setIfInBounds_toArray, List.set_cons_zero, List.set_cons_succ]
            refine lex_as wi _ rfl rfl rfl ?_
            simp only [Act.put, List.setIfInBounds_toArray, List.set_cons_zero, List.set_cons_succ]
            refine lex_as wN _ rfl rfl rfl ?_
            simp only [Act.put, List.setIfInBounds_toArray, List.set_cons_zero, List.set_cons_succ]
            refine lex_as wl _ rfl rfl rfl ?_
            simp only [Act.put, List.setIfInBounds_toArray, List.set_cons_zero, List.set_cons_succ]
            refine lex_nil (NoPanic.normal ?_)
            have hB14 : Below X1.heap.size X1 X4 := HX3.out.2.2.trans (hbx4.mono HX3.out.2.2.size)
            obtain ⟨gbi, hbie, hbi⟩ := hz.hbi
            obtain ⟨gbt, btv, hbte, hbt⟩ := hz.hbt
            obtain ⟨KB, hble, hkb1, hkb2, hkb3⟩ := hz.hbl
            obtain ⟨gwi, hwie, hwi⟩ := hz.hwi
            obtain ⟨gwn, hwne, hwn⟩ := hz.hwN
            obtain ⟨KW, hwle, hkw1, hkw2, hkw3⟩ := hz.hwl
            have hleft : KB.length = leftN bid wid wn nw ids n nb := left_eq H18.out HX1.out.1.2 hkb1 hkb2 hkb3
            have hpres : KW.length = presN (decL (G0 wid wn nw) (Rof bid nb tn tt wid wn nw ids n)) (lid L) L.length := pres_eq (fun x hx => by
              obtain ⟨i, hi, rfl⟩ := mem_lid hx
              exact HX3.out.1.2 i hi) HX3.out.2.1 hkw1 hkw2 hkw3
            subst hbie
            subst hbte
            subst hwie
            subst hwne
            rw [hleft] at hble
            rw [hpres] at hwle
            subst hble
            subst hwle
            have HZ := hide (show TreesV X4 got (Rof bid nb tn tt wid wn nw ids n).length (trl (Rof bid nb tn tt wid wn nw ids n)) ∧ (got = nilS ↔ Rof bid nb tn tt wid wn nw ids n = []) ∧ IdsV X4 ba ((idl ids n).filter (inB bid nb wid wn nw ids n)).length (lid ((idl ids n).filter (inB bid nb wid wn nw ids n))) ∧ NilAs ba (.slice ai5 n n) from ⟨hz.hgot, hz.hgotnil, hz.hba, hz.hbanil⟩)
            have HZb := hide (And.intro hbi (And.intro hbt (And.intro hwi hwn)))
            have HX4 := hide (show BasesV X4 (.slice ab4 nb cb4) nb bid tv ∧ (∀ i, i < nb → TreesV X4 (tv i) (tn i) (tt i)) ∧ IdsV X4 (.slice ai5 n n) n ids ∧ WaitsV X4 (.slice aw6 nw cw6) nw wid wn ∧ (∀ i, i < nb → X4.cell? ⟨gt, i, none⟩ = some (.bool (tk bid wid wn nw ids n i))) ∧ Below w.heap.size w X4 ∧ IdsV X4 vpi L.length (lid L) from
              ⟨HX1.out.1.below hB14 (Nat.le_refl _), fun i hi => (HX1.out.2.1 i hi).below hB14 (Nat.le_refl _), HX1.out.2.2.1.below hB14 (Nat.le_refl _), HX1.out.2.2.2.1.below hB14 (Nat.le_refl _), fun i hi => (hB14.cell (p := ⟨gt, i, none⟩) hgtl).trans (HX1.out.2.2.2.2.1 i hi), HX1.out.2.2.2.2.2.trans (hB14.mono HX1.out.2.2.2.2.2.size), HX3.out.1.below hbx4 (Nat.le_refl _)⟩)
            clear hbi hbt hwi hwn hz hbx4 hB14 hkb1 hkb2 hkb3 hkw1 hkw2 hkw3 hleft hpres HX1 HX3
            have hgt4 : gt < X4.heap.size ∨ nb = 0 := by
              by_cases h0 : nb = 0
              · exact .inr h0
              · exact .inl (World.block_lt_of_cell? X4 _ (HX4.out.2.2.2.2.1 0 (by omega)))
            have HGT := hide hgt4
            clear hgt4 hgtl
            generalize hlf9 : ((leftN bid wid wn nw ids n nb : Nat) : Int) = lftI at *
            generalize hpr9 : ((presN (decL (G0 wid wn nw) (Rof bid nb tn tt wid wn nw ids n)) (lid L) L.length : Nat) : Int) = prsI at *
            have HLF := hide hlf9
            have HPR := hide hpr9
            clear hlf9 hpr9
            go_wp2
            go_loopw [21, 22] (fun o i wr => ∃ k : Nat, k ≤ n ∧ i = .int .i64 k ∧ OwnW wr X4.heap.size 60 43 o ((wantL bid nb tn tt wid wn nw ids n k).map trc) ∧ (o = nilS ↔ wantL bid nb tn tt wid wn nw ids n k = []) ∧ (wantL bid nb tn tt wid wn nw ids n k).length ≤ k * 4096 ∧ (∀ t ∈ wantL bid nb tn tt wid wn nw ids n k, t.ok) ∧ Below X4.heap.size X4 wr) (fun _ i _ => n - (intOf i).toNat)
            case atStart => exact ⟨0, Nat.zero_le _, rfl, OwnW.nil _ _ _ _, by simp [nilS, wantL], by simp [wantL], by simp [wantL], Below.refl _ _⟩
            case round =>
              obtain ⟨k, hk, rfl, hown, hnil, hlen, hokw, hbel⟩ := hrel
              by_cases hlt : k < n
              · obtain ⟨ai5', ci5', e5, hio⟩ := HX4.out.2.2.1.1.open
                obtain ⟨b, off, ea5, hrow⟩ := hio k hlt
                obtain ⟨rfl, -, -⟩ := (Value.slice.injEq _ _ _ _ _ _).mp e5
                subst ea5
                have hlx := HX4.out.2.2.1.2 k hlt
                have hra0 := hrow k hlt
                have hbw : b < X4.heap.size := rangeAt_lt hra0 (by rw [idc_length, hlx]; omega)
                have hra : wr.rangeAt b (off + k * 20) (idc (ids k)) := rangeAt_below hbel hbw hra0
                have hidsk : IdsV wr (.slice (some ⟨b, off, none⟩) k n) k ids := ⟨.inr ⟨b, off, n, rfl, fun i hi => rangeAt_below hbel hbw (hrow i (by omega))⟩, fun i hi => HX4.out.2.2.1.2 i (by omega)⟩
                have hsl := run_slice_to (b := b) (off := off) (n := n) (k := k) (by omega) hn
                have hstep : Hid (wantL bid nb tn tt wid wn nw ids n (k + 1) = wantL bid nb tn tt wid wn nw ids n k ++ wstep bid nb tn tt wid wn nw ids n k) := hide rfl
                have HW := hide (And.intro hown (And.intro hnil (And.intro hlen (And.intro hokw (And.intro hbel hidsk)))))
                have HSL := hide hsl
                clear hown hnil hlen hokw hbel hidsk hra0 hrow hio e5 hsl
                generalize wantL bid nb tn tt wid wn nw ids n k = wl at *
                go_upto_region 23 with fail
                refine wp_region_lex (fun w' => w'.rangeAt b (off + k * 20) (idc (ids k))) (by kernel_rfl) (by kernel_rfl) ((World.rangeAt_drew _ _ _ _).2 hra) ?_
                refine lex_mv (.slice (some ⟨b, off, none⟩) n n) _ rfl rfl rfl ?_
                simp only [Act.put, List.setIfInBounds_toArray, List.set_cons_zero, List.set_cons_succ]
                refine lex_mv (.int .i64 (k : Int)) _ rfl rfl rfl ?_
                simp only [Act.put, List.setIfInBounds_toArray, List.set_cons_zero, List.set_cons_succ]
                refine lex_slice 28 _ _ (.slice (some ⟨b, off, none⟩) n n) (.int .i64 (k : Int)) (.slice (some ⟨b, off, none⟩) k n) rfl rfl rfl rfl HSL.out ?_
                simp only [Act.put, List.setIfInBounds_toArray, List.set_cons_zero, List.set_cons_succ]
                refine lex_mv (.slice (some ⟨b, off, none⟩) n n) _ rfl rfl rfl ?_
                simp only [Act.put, List.setIfInBounds_toArray, List.set_cons_zero, List.set_cons_succ]
                refine lex_mv (.int .i64 (k : Int)) _ rfl rfl rfl ?_
                simp only [Act.put, List.setIfInBounds_toArray, List.set_cons_zero, List.set_cons_succ]
                refine lex_index 28 34 _ _ b off n n k 20 rfl rfl rfl rfl hlt Trym.underlying28 i34 ?_
                simp only [Act.put, List.setIfInBounds_toArray, List.set_cons_zero, List.set_cons_succ]
                refine lex_load 34 _ b (off + k * 20) (idc (ids k)) _ rfl rfl rfl (fun _ h => h) Trym.underlying34 rfl (by rw [i34, idc_length, hlx]) ?_
                simp only [Act.put, List.setIfInBounds_toArray, List.set_cons_zero, List.set_cons_succ]
                refine lex_solek (by kernel_rfl) rfl (fun K hK => ?_)
                have hcon := contains_any (.slice (some ⟨b, off, none⟩) k n) k ids (ids k) wr.drew (by omega) hlx (HW.out.2.2.2.2.2.below ((Below.refl _ _).drew) (Nat.le_refl _))
                have HCON := hide hcon
                clear hcon HSL
                go_simp
                refine HCON.out.mono ?_
                rintro e wa ⟨rfl, hba⟩
                have hbwr : b < wr.heap.size := Nat.lt_of_lt_of_le hbw HW.out.2.2.2.2.1.size
                have hraa := rangeAt_below hba (B := wr.drew.heap.size) hbwr ((World.rangeAt_drew _ _ _ _).2 hra)
                refine hK.out _ _ hraa ?_
                clear hK HCON
                try simp only [Act.put, List.setIfInBounds_toArray, List.set_cons_zero, List.set_cons_succ]
                refine lex_nil (NoPanic.normal ?_)
                have hbela : Below X4.heap.size X4 wa := HW.out.2.2.2.2.1.drew.trans (hba.mono HW.out.2.2.2.2.1.size)
                have howna : OwnW wa X4.heap.size 60 43 u21 (wl.map trc) := OwnW.below (w := wr.drew) HW.out.1 hba (Nat.le_refl _)
                have HWa := hide (And.intro howna (And.intro HW.out.2.1 (And.intro HW.out.2.2.1 (And.intro HW.out.2.2.2.1 hbela))))
                clear hbela howna HW hba hra hbwr
                cases hq : hasId ids (ids k) k with
                | true =>
                  have hws : Hid (wstep bid nb tn tt wid wn nw ids n k = []) := hide (by unfold wstep; rw [if_pos hq])
                  clear hq hraa
                  go_wp2
                  go_roundw
                  case rel => exact ⟨k + 1, by omega, by go_num, by rw [hstep.out, hws.out, List.append_nil]; exact HWa.out.1, by rw [hstep.out, hws.out, List.append_nil]; exact HWa.out.2.1, by rw [hstep.out, hws.out, List.append_nil]; have := HWa.out.2.2.1; omega, by rw [hstep.out, hws.out, List.append_nil]; exact HWa.out.2.2.2.1, HWa.out.2.2.2.2⟩
                  case measure => simp [intOf]; omega
                | false =>
                  go_upto_region 24 with fail
                  refine wp_region_lexp (fun w' => True) trivial ?_
                  refine lex_mv (.slice ab4 nb cb4) _ rfl rfl rfl ?_
                  simp only [Act.put, List.setIfInBounds_toArray, List.set_cons_zero, List.set_cons_succ]
                  refine lex_mv (.slice (some ⟨b, off, none⟩) n n) _ rfl rfl rfl ?_
                  simp only [Act.put, List.setIfInBounds_toArray, List.set_cons_zero, List.set_cons_succ]
                  refine lex_mv (.int .i64 (k : Int)) _ rfl rfl rfl ?_
                  simp only [Act.put, List.setIfInBounds_toArray, List.set_cons_zero, List.set_cons_succ]
                  refine lex_index 28 34 _ _ b off n n k 20 rfl rfl rfl rfl hlt Trym.underlying28 i34 ?_
                  simp only [Act.put, List.setIfInBounds_toArray, List.set_cons_zero, List.set_cons_succ]
                  refine lex_loadx 34 _ b (off + k * 20) (idc (ids k)) _ rfl rfl rfl rfl hraa Trym.underlying34 rfl (by rw [i34, idc_length, hlx]) trivial ?_
                  simp only [Act.put, List.setIfInBounds_toArray, List.set_cons_zero, List.set_cons_succ]
                  refine lex_solek rfl rfl (fun K hK => ?_)
                  have hbx := baseIdx_any (.slice ab4 nb cb4) nb bid tv (ids k) wa hnb hlx (HX4.out.1.below HWa.out.2.2.2.2 (Nat.le_refl _))
                  have HBX := hide hbx
                  clear hbx
                  go_simp
                  refine HBX.out.mono ?_
                  rintro e wc ⟨rfl, hbc⟩
                  refine hK.out _ _ trivial ?_
                  clear hK HBX
                  try simp only [Act.put, List.setIfInBounds_toArray, List.set_cons_zero, List.set_cons_succ]
                  refine lex_as (.int .i64 (baseIx bid nb (ids k))) _ rfl rfl rfl ?_
                  simp only [Act.put, List.setIfInBounds_toArray, List.set_cons_zero, List.set_cons_succ]
                  refine lex_nil (NoPanic.normal ?_)
                  have hbelc : Below X4.heap.size X4 wc := HWa.out.2.2.2.2.trans (hbc.mono HWa.out.2.2.2.2.size)
                  have hownc : OwnW wc X4.heap.size 60 43 u21 (wl.map trc) := HWa.out.1.below hbc (Nat.le_refl _)
                  have HWc := hide (And.intro hownc (And.intro HWa.out.2.1 (And.intro HWa.out.2.2.1 (And.intro HWa.out.2.2.2.1 hbelc))))
                  clear hbelc hownc HWa hbc hraa
                  have hwsd : Hid (wstep bid nb tn tt wid wn nw ids n k = match findId bid (ids k) nb with | some j => if tk bid wid wn nw ids n j then (List.range (tn j)).map (tt j) else [] | none => []) := hide (by unfold wstep; rw [hq]; rfl)
                  clear hq
                  cases hf : findId bid (ids k) nb with
                  | none =>
                    have hbe : baseIx bid nb (ids k) = -1 := by unfold baseIx; rw [hf]
                    have hws : Hid (wstep bid nb tn tt wid wn nw ids n k = []) := hide (by rw [hwsd.out, hf])
                    rw [hbe]
                    clear hbe hf hwsd
                    go_wp2
                    go_roundw
                    case rel => exact ⟨k + 1, by omega, by go_num, by rw [hstep.out, hws.out, List.append_nil]; exact HWc.out.1, by rw [hstep.out, hws.out, List.append_nil]; exact HWc.out.2.1, by rw [hstep.out, hws.out, List.append_nil]; have := HWc.out.2.2.1; omega, by rw [hstep.out, hws.out, List.append_nil]; exact HWc.out.2.2.2.1, HWc.out.2.2.2.2⟩
                    case measure => simp [intOf]; omega
                  | some j =>
                    obtain ⟨hj, _⟩ := findId_lt hf
                    have hbe : baseIx bid nb (ids k) = (j : Int) := by unfold baseIx; rw [hf]
                    have hws : Hid (wstep bid nb tn tt wid wn nw ids n k = if tk bid wid wn nw ids n j then (List.range (tn j)).map (tt j) else []) := hide (by rw [hwsd.out, hf])
                    rw [hbe]
                    clear hbe hf hwsd
                    have hgtX : gt < X4.heap.size := by
                      rcases HGT.out with h | h
                      · exact h
                      · omega
                    have htj : wc.cell? ⟨gt, 0 + j * 1, none⟩ = some (.bool (tk bid wid wn nw ids n j)) := by
                      rw [show 0 + j * 1 = j by omega]
                      exact (HWc.out.2.2.2.2.cell (p := ⟨gt, j, none⟩) hgtX).trans (HX4.out.2.2.2.2.1 j hj)
                    go_upto_region 25 with fail
                    refine wp_region_lexp (fun w' => True) trivial ?_
                    refine lex_mv (.int .i64 (j : Int)) _ rfl rfl rfl ?_
                    simp only [Act.put, List.setIfInBounds_toArray, List.set_cons_zero, List.set_cons_succ]
                    refine lex_bin .geq 3 3 _ _ (.int .i64 (j : Int)) (.int .i64 0) (.bool true) rfl rfl rfl rfl (fun w => rfl) (fun w => by simp [go_sem]) ?_
                    simp only [Act.put, List.setIfInBounds_toArray, List.set_cons_zero, List.set_cons_succ]
                    refine lex_mv (.bool true) _ rfl rfl rfl ?_
                    simp only [Act.put, List.setIfInBounds_toArray, List.set_cons_zero, List.set_cons_succ]
                    refine lex_mv (.slice (some ⟨gt, 0, none⟩) nb nb) _ (by kernel_rfl) rfl rfl ?_
                    simp only [Act.put, List.setIfInBounds_toArray, List.set_cons_zero, List.set_cons_succ]
                    refine lex_mv (.int .i64 (j : Int)) _ (by kernel_rfl) rfl rfl ?_
                    simp only [Act.put, List.setIfInBounds_toArray, List.set_cons_zero, List.set_cons_succ]
                    refine lex_index 46 4 _ _ gt 0 nb nb j 1 (by kernel_rfl) rfl rfl rfl hj Trym.underlying46 i4 ?_
                    simp only [Act.put, List.setIfInBounds_toArray, List.set_cons_zero, List.set_cons_succ]
                    refine lex_load1x 4 _ gt (0 + j * 1) (.bool (tk bid wid wn nw ids n j)) rfl (by kernel_rfl) rfl rfl htj (fun w => Trym.isAgg4 w) trivial ?_
                    simp only [Act.put, List.setIfInBounds_toArray, List.set_cons_zero, List.set_cons_succ]
                    refine lex_pickT _ _ _ (.bool (tk bid wid wn nw ids n j)) rfl rfl rfl rfl ?_
                    simp only [Act.put, List.setIfInBounds_toArray, List.set_cons_zero, List.set_cons_succ]
                    refine lex_nil (NoPanic.normal ?_)
                    clear htj
                    cases htk9 : tk bid wid wn nw ids n j with
                    | false =>
                      have hws2 : Hid (wstep bid nb tn tt wid wn nw ids n k = []) := hide (by rw [hws.out, htk9]; rfl)
                      clear htk9 hws
                      go_wp2
                      go_roundw
                      case rel => exact ⟨k + 1, by omega, by go_num, by rw [hstep.out, hws2.out, List.append_nil]; exact HWc.out.1, by rw [hstep.out, hws2.out, List.append_nil]; exact HWc.out.2.1, by rw [hstep.out, hws2.out, List.append_nil]; have := HWc.out.2.2.1; omega, by rw [hstep.out, hws2.out, List.append_nil]; exact HWc.out.2.2.2.1, HWc.out.2.2.2.2⟩
                      case measure => simp [intOf]; omega
                    | true =>
                      have hws2 : Hid (wstep bid nb tn tt wid wn nw ids n k = (List.range (tn j)).map (tt j)) := hide (by rw [hws.out, htk9]; rfl)
                      clear htk9 hws
                      obtain ⟨ab', cb', eb, hbo⟩ := HX4.out.1.1.open
                      obtain ⟨b3, off3, ea3, hrow3⟩ := hbo j hj
                      obtain ⟨rfl, -, -⟩ := (Value.slice.injEq _ _ _ _ _ _).mp eb
                      subst ea3
                      have hlb := HX4.out.1.2 j hj
                      have hrb0 := hrow3 j hj
                      have hbw3 : b3 < X4.heap.size := rangeAt_lt hrb0 (by simp [ent])
                      have hcj : wc.cell? ⟨b3, off3 + j * 21 + 20, none⟩ = some (tv j) := rangeAt_head (rangeAt_right (rangeAt_below HWc.out.2.2.2.2 hbw3 hrb0) (by rw [idc_length, hlb]))
                      have hTj := (HX4.out.2.1 j hj).below HWc.out.2.2.2.2 (Nat.le_refl _)
                      have hlenw := HWc.out.2.2.1
                      have htnj := HTN.out j hj
                      obtain ⟨v2, w2, hap, hown2, hgr2, hnil2, _⟩ := append_any Trym.underlying49 e60 (by omega) (by omega) 49 HWc.out.1 hTj.1 (fun i hi => trc_length (hTj.2 i hi)) (fun i hi => trc_one _) (by
                        have : k * 4096 ≤ 4096 * 4096 := Nat.mul_le_mul_right _ (by omega)
                        simp
                        omega) HWc.out.2.2.2.2.size
                      have hbel2 : Below X4.heap.size X4 w2 := HWc.out.2.2.2.2.grown hgr2 HWc.out.2.2.2.2.size (fun g hg => (HWc.out.1.block g hg).1)
                      have emap : wl.map trc ++ (List.range (tn j)).map (fun i => trc (tt j i)) = (wl ++ (List.range (tn j)).map (tt j)).map trc := by
                        rw [List.map_append, List.map_map]
                        rfl
                      rw [emap] at hown2
                      have HN : Hid (OwnW w2 X4.heap.size 60 43 v2 ((wantL bid nb tn tt wid wn nw ids n (k + 1)).map trc) ∧ (v2 = nilS ↔ wantL bid nb tn tt wid wn nw ids n (k + 1) = []) ∧ (wantL bid nb tn tt wid wn nw ids n (k + 1)).length ≤ (k + 1) * 4096 ∧ (∀ t ∈ wantL bid nb tn tt wid wn nw ids n (k + 1), t.ok) ∧ Below X4.heap.size X4 w2) := hide (by
                        rw [hstep.out, hws2.out]
                        refine ⟨hown2, ?_, ?_, ?_, hbel2⟩
                        · show v2 = .slice none 0 0 ↔ _
                          rw [hnil2]
                          have h9 := HWc.out.2.1
                          constructor
                          · rintro ⟨h1, h2⟩
                            have h3 := h9.1 h1
                            rw [h3, h2]
                            rfl
                          · intro h1
                            obtain ⟨h2, h3⟩ := List.append_eq_nil_iff.1 h1
                            refine ⟨h9.2 h2, ?_⟩
                            have h4 := congrArg List.length h3
                            simpa using h4
                        · have e1 : (k + 1) * 4096 = k * 4096 + 4096 := Nat.succ_mul k 4096
                          simp
                          omega
                        · intro t ht
                          rcases List.mem_append.1 ht with ht | ht
                          · exact HWc.out.2.2.2.1 t ht
                          · simp only [List.mem_map, List.mem_range] at ht
                            obtain ⟨i, hi, rfl⟩ := ht
                            exact hTj.2 i hi)
                      have HAP := hide hap
                      clear hap hown2 hgr2 hnil2 hbel2 emap hTj hlenw htnj hrb0 hrow3 hbo eb HWc
                      go_upto_region 26 with fail
                      refine wp_region_lexp (fun w' => True) trivial ?_
                      refine lex_mv u21 _ rfl rfl rfl ?_
                      simp only [Act.put, List.setIfInBounds_toArray, List.set_cons_zero, List.set_cons_succ]
                      refine lex_mv (.slice (some ⟨b3, off3, none⟩) nb cb4) _ rfl rfl rfl ?_
                      simp only [Act.put, List.setIfInBounds_toArray, List.set_cons_zero, List.set_cons_succ]
                      refine lex_mv (.int .i64 (j : Int)) _ rfl rfl rfl ?_
                      simp only [Act.put, List.setIfInBounds_toArray, List.set_cons_zero, List.set_cons_succ]
                      refine lex_index 39 50 _ _ b3 off3 nb cb4 j 21 rfl rfl rfl rfl hj Trym.underlying39 i50 ?_
                      simp only [Act.put, List.setIfInBounds_toArray, List.set_cons_zero, List.set_cons_succ]
                      refine lex_field 50 _ 1 b3 (off3 + j * 21) 20 _ _ rfl rfl rfl Trym.underlying50 rfl i49 rfl ?_
                      simp only [Act.put, List.setIfInBounds_toArray, List.set_cons_zero, List.set_cons_succ]
                      refine lex_load1x 49 _ b3 (off3 + j * 21 + 20) (tv j) rfl rfl rfl rfl hcj (fun w => Trym.isAgg49 w) trivial ?_
                      simp only [Act.put, List.setIfInBounds_toArray, List.set_cons_zero, List.set_cons_succ]
                      refine lex_append 49 _ _ u21 (tv j) v2 w2 rfl rfl rfl rfl rfl HAP.out trivial ?_
                      simp only [Act.put, List.setIfInBounds_toArray, List.set_cons_zero, List.set_cons_succ]
                      refine lex_as v2 _ rfl rfl rfl ?_
                      simp only [Act.put, List.setIfInBounds_toArray, List.set_cons_zero, List.set_cons_succ]
                      refine lex_nil (NoPanic.normal ?_)
                      clear HAP hcj
                      go_wp2
                      go_roundw
                      case rel => exact ⟨k + 1, by omega, by go_num, HN.out.1, HN.out.2.1, HN.out.2.2.1, HN.out.2.2.2.1, HN.out.2.2.2.2⟩
                      case measure => simp [intOf]; omega
              · have hkn : n = k := by omega
                subst hkn
                have hwe := want_eq (tn := tn) (tt := tt) (wid := wid) (wn := wn) (nw := nw) (ids := ids) (n := n) H18.out
                rw [hwe] at hown hnil hlen hokw
                have hteq := treesEq_any got u21 _ _ wr (by omega) (HZ.out.1.below hbel (Nat.le_refl _)) (trees_view60 hown hokw) (HZ.out.2.1.trans hnil.symm)
                have HTE := hide hteq
                have HB := hide hbel
                clear hteq hbel hown hnil hlen hokw hwe hlt hk
                go_upto_region 27 with fail
                refine wp_region_lexp (fun w' => True) trivial ?_
                refine lex_mv got _ rfl rfl rfl ?_
                simp only [Act.put, List.setIfInBounds_toArray, List.set_cons_zero, List.set_cons_succ]
                refine lex_mv u21 _ rfl rfl rfl ?_
                simp only [Act.put, List.setIfInBounds_toArray, List.set_cons_zero, List.set_cons_succ]
                refine lex_solek rfl rfl (fun K hK => ?_)
                go_simp
                refine HTE.out.mono ?_
                rintro e X5 ⟨rfl, hb5⟩
                refine hK.out _ _ trivial ?_
                clear hK HTE
                try simp only [Act.put, List.setIfInBounds_toArray, List.set_cons_zero, List.set_cons_succ]
                refine lex_not 4 _ true rfl rfl rfl ?_
                simp only [Act.put, List.setIfInBounds_toArray, List.set_cons_zero, List.set_cons_succ]
                refine lex_nil (NoPanic.normal ?_)
                have HX5 := hide (show Below X4.heap.size X4 X5 from HB.out.trans (hb5.mono HB.out.size))
                clear HB hb5
                go_wp2
                go_loopw [24, 25] (fun l i wr => ∃ k : Nat, k ≤ nb ∧ i = .int .i64 k ∧ l = .int .i64 (leftN bid wid wn nw ids n k : Int) ∧ leftN bid wid wn nw ids n k ≤ k ∧ Below X4.heap.size X4 wr) (fun _ i _ => nb - (intOf i).toNat)
                case atStart => exact ⟨0, Nat.zero_le _, rfl, rfl, by simp [leftN], HX5.out⟩
                case round =>
                  obtain ⟨k, hk, rfl, rfl, hll, hbel⟩ := hrel
                  by_cases hlt : k < nb
                  · have hgtX : gt < X4.heap.size := by
                      rcases HGT.out with h | h
                      · exact h
                      · omega
                    have hgbX : gbi < X4.heap.size := World.block_lt_of_cell? X4 _ (HZb.out.1 k hlt)
                    have hgtb : gbt < X4.heap.size := World.block_lt_of_cell? X4 _ (HZb.out.2.1 k hlt).1
                    have hctk : wr.cell? ⟨gt, 0 + k * 1, none⟩ = some (.bool (tk bid wid wn nw ids n k)) := by
                      rw [show 0 + k * 1 = k by omega]
                      exact (hbel.cell (p := ⟨gt, k, none⟩) hgtX).trans (HX4.out.2.2.2.2.1 k hlt)
                    have hcbi : wr.cell? ⟨gbi, 0 + k * 1, none⟩ = some (.bool (!tk bid wid wn nw ids n k)) := by
                      rw [show 0 + k * 1 = k by omega, ← inB_tk H18.out hlt]
                      exact (hbel.cell (p := ⟨gbi, k, none⟩) hgbX).trans (HZb.out.1 k hlt)
                    have hcbt : wr.cell? ⟨gbt, 0 + k * 1, none⟩ = some (btv k) := by
                      rw [show 0 + k * 1 = k by omega]
                      exact (hbel.cell (p := ⟨gbt, k, none⟩) hgtb).trans (HZb.out.2.1 k hlt).1
                    have hbt9 := (HZb.out.2.1 k hlt).2
                    rw [inB_tk H18.out hlt] at hbt9
                    have hlf : Hid (leftN bid wid wn nw ids n (k + 1) = leftN bid wid wn nw ids n k + (if tk bid wid wn nw ids n k then 0 else 1)) := hide rfl
                    have HBT := hide (And.intro hbt9 hbel)
                    clear hbt9 hbel hgbX hgtb hgtX
                    generalize leftN bid wid wn nw ids n k = lk at *
                    go_upto_region 33 with fail
                    refine wp_region_lexp (fun w' => True) trivial ?_
                    refine lex_mv (.slice (some ⟨gt, 0, none⟩) nb nb) _ rfl rfl rfl ?_
                    simp only [Act.put, List.setIfInBounds_toArray, List.set_cons_zero, List.set_cons_succ]
                    refine lex_mv (.int .i64 (k : Int)) _ rfl rfl rfl ?_
                    simp only [Act.put, List.setIfInBounds_toArray, List.set_cons_zero, List.set_cons_succ]
                    refine lex_index 46 4 _ _ gt 0 nb nb k 1 rfl rfl rfl rfl hlt Trym.underlying46 i4 ?_
                    simp only [Act.put, List.setIfInBounds_toArray, List.set_cons_zero, List.set_cons_succ]
                    refine lex_load1x 4 _ gt (0 + k * 1) (.bool (tk bid wid wn nw ids n k)) rfl rfl rfl rfl hctk (fun w => Trym.isAgg4 w) trivial ?_
                    simp only [Act.put, List.setIfInBounds_toArray, List.set_cons_zero, List.set_cons_succ]
                    refine lex_nil (NoPanic.normal ?_)
                    clear hctk
                    cases htk9 : tk bid wid wn nw ids n k with
                    | true =>
                      rw [htk9] at hcbi
                      have hlf2 : Hid (leftN bid wid wn nw ids n (k + 1) = lk) := hide (by rw [hlf.out, htk9]; rfl)
                      have hbn : btv k = nilS := HBT.out.1.2 (by rw [htk9]; rfl)
                      rw [hbn] at hcbt
                      clear hbn htk9 hlf
                      have HBL := hide HBT.out.2
                      clear HBT
                      go_upto_region 34 with fail
                      refine wp_region_lexp (fun w' => True) trivial ?_
                      refine lex_mv (.slice (some ⟨gbi, 0, none⟩) nb nb) _ rfl rfl rfl ?_
                      simp only [Act.put, List.setIfInBounds_toArray, List.set_cons_zero, List.set_cons_succ]
                      refine lex_mv (.int .i64 (k : Int)) _ rfl rfl rfl ?_
                      simp only [Act.put, List.setIfInBounds_toArray, List.set_cons_zero, List.set_cons_succ]
                      refine lex_index 46 4 _ _ gbi 0 nb nb k 1 rfl rfl rfl rfl hlt Trym.underlying46 i4 ?_
                      simp only [Act.put, List.setIfInBounds_toArray, List.set_cons_zero, List.set_cons_succ]
                      refine lex_load1x 4 _ gbi (0 + k * 1) (.bool false) rfl rfl rfl rfl hcbi (fun w => Trym.isAgg4 w) trivial ?_
                      simp only [Act.put, List.setIfInBounds_toArray, List.set_cons_zero, List.set_cons_succ]
                      refine lex_mv (.bool false) _ rfl rfl rfl ?_
                      simp only [Act.put, List.setIfInBounds_toArray, List.set_cons_zero, List.set_cons_succ]
                      refine lex_mv (.slice (some ⟨gbt, 0, none⟩) nb nb) _ (by kernel_rfl) rfl rfl ?_
                      simp only [Act.put, List.setIfInBounds_toArray, List.set_cons_zero, List.set_cons_succ]
                      refine lex_mv (.int .i64 (k : Int)) _ (by kernel_rfl) rfl rfl ?_
                      simp only [Act.put, List.setIfInBounds_toArray, List.set_cons_zero, List.set_cons_succ]
                      refine lex_index 54 49 _ _ gbt 0 nb nb k 1 (by kernel_rfl) rfl rfl rfl hlt Trym.underlying54 i49 ?_
                      simp only [Act.put, List.setIfInBounds_toArray, List.set_cons_zero, List.set_cons_succ]
                      refine lex_load1x 49 _ gbt (0 + k * 1) (.slice none 0 0) rfl (by kernel_rfl) rfl rfl hcbt (fun w => Trym.isAgg49 w) trivial ?_
                      simp only [Act.put, List.setIfInBounds_toArray, List.set_cons_zero, List.set_cons_succ]
                      refine lex_bin .neq 49 49 _ _ (.slice none 0 0) (.slice none 0 0) (.bool false) (by kernel_rfl) rfl rfl rfl (fun w => rfl) neq_nil49 ?_
                      simp only [Act.put, List.setIfInBounds_toArray, List.set_cons_zero, List.set_cons_succ]
                      refine lex_pickF _ _ _ (.bool false) rfl rfl rfl rfl ?_
                      simp only [Act.put, List.setIfInBounds_toArray, List.set_cons_zero, List.set_cons_succ]
                      refine lex_nil (NoPanic.normal ?_)
                      clear hcbi hcbt
                      go_wp2
                      go_roundw
                      case rel => exact ⟨k + 1, by omega, by go_num, by rw [hlf2.out], by rw [hlf2.out]; omega, HBL.out⟩
                      case measure => simp [intOf]; omega
                    | false =>
                      rw [htk9] at hcbi
                      have hlf2 : Hid (leftN bid wid wn nw ids n (k + 1) = lk + 1) := hide (by rw [hlf.out, htk9]; rfl)
                      have hbn := HBT.out.1.1 (by rw [htk9]; rfl)
                      clear htk9 hlf
                      obtain ⟨ab', cb', eb, hbo⟩ := HX4.out.1.1.open
                      obtain ⟨b3, off3, ea3, hrow3⟩ := hbo k hlt
                      obtain ⟨rfl, -, -⟩ := (Value.slice.injEq _ _ _ _ _ _).mp eb
                      subst ea3
                      have hlb := HX4.out.1.2 k hlt
                      have hrb0 := hrow3 k hlt
                      have hbw3 : b3 < X4.heap.size := rangeAt_lt hrb0 (by simp [ent])
                      have hcj : wr.cell? ⟨b3, off3 + k * 21 + 20, none⟩ = some (tv k) := rangeAt_head (rangeAt_right (rangeAt_below HBT.out.2 hbw3 hrb0) (by rw [idc_length, hlb]))
                      have hteq := treesEq_any (btv k) (tv k) (tn k) (tt k) wr.drew (by have := HTN.out k hlt; omega) (hbn.1.below HBT.out.2.drew (Nat.le_refl _)) ((HX4.out.2.1 k hlt).below HBT.out.2.drew (Nat.le_refl _)) hbn.2
                      have HTE := hide hteq
                      have HBL := hide HBT.out.2
                      clear hteq hbn HBT hrb0 hrow3 hbo eb
                      go_upto_region 36 with fail
                      refine wp_region_lex (fun w' => w'.cell? ⟨gbi, 0 + k * 1, none⟩ = some (.bool true) ∧ w'.cell? ⟨gbt, 0 + k * 1, none⟩ = some (btv k) ∧ w'.cell? ⟨b3, off3 + k * 21 + 20, none⟩ = some (tv k)) (by kernel_rfl) (by kernel_rfl) ⟨hcbi, hcbt, hcj⟩ ?_
                      refine lex_mv (.slice (some ⟨gbi, 0, none⟩) nb nb) _ rfl rfl rfl ?_
                      simp only [Act.put, List.setIfInBounds_toArray, List.set_cons_zero, List.set_cons_succ]
                      refine lex_mv (.int .i64 (k : Int)) _ rfl rfl rfl ?_
                      simp only [Act.put, List.setIfInBounds_toArray, List.set_cons_zero, List.set_cons_succ]
                      refine lex_index 46 4 _ _ gbi 0 nb nb k 1 rfl rfl rfl rfl hlt Trym.underlying46 i4 ?_
                      simp only [Act.put, List.setIfInBounds_toArray, List.set_cons_zero, List.set_cons_succ]
                      refine lex_load1 4 _ gbi (0 + k * 1) (.bool true) rfl rfl rfl (fun _ h => h.1) (fun w => Trym.isAgg4 w) ?_
                      simp only [Act.put, List.setIfInBounds_toArray, List.set_cons_zero, List.set_cons_succ]
                      refine lex_not 4 _ true rfl rfl rfl ?_
                      simp only [Act.put, List.setIfInBounds_toArray, List.set_cons_zero, List.set_cons_succ]
                      refine lex_mv (.bool false) _ rfl rfl rfl ?_
                      simp only [Act.put, List.setIfInBounds_toArray, List.set_cons_zero, List.set_cons_succ]
                      refine lex_mv (.slice (some ⟨gbt, 0, none⟩) nb nb) _ (by kernel_rfl) rfl rfl ?_
                      simp only [Act.put, List.setIfInBounds_toArray, List.set_cons_zero, List.set_cons_succ]
                      refine lex_mv (.int .i64 (k : Int)) _ (by kernel_rfl) rfl rfl ?_
                      simp only [Act.put, List.setIfInBounds_toArray, List.set_cons_zero, List.set_cons_succ]
                      refine lex_index 54 49 _ _ gbt 0 nb nb k 1 (by kernel_rfl) rfl rfl rfl hlt Trym.underlying54 i49 ?_
                      simp only [Act.put, List.setIfInBounds_toArray, List.set_cons_zero, List.set_cons_succ]
                      refine lex_load1 49 _ gbt (0 + k * 1) (btv k) (by kernel_rfl) rfl rfl (fun _ h => h.2.1) (fun w => Trym.isAgg49 w) ?_
                      simp only [Act.put, List.setIfInBounds_toArray, List.set_cons_zero, List.set_cons_succ]
                      refine lex_mv (.slice (some ⟨b3, off3, none⟩) nb cb4) _ (by kernel_rfl) rfl rfl ?_
                      simp only [Act.put, List.setIfInBounds_toArray, List.set_cons_zero, List.set_cons_succ]
                      refine lex_mv (.int .i64 (k : Int)) _ (by kernel_rfl) rfl rfl ?_
                      simp only [Act.put, List.setIfInBounds_toArray, List.set_cons_zero, List.set_cons_succ]
                      refine lex_index 39 50 _ _ b3 off3 nb cb4 k 21 (by kernel_rfl) rfl rfl rfl hlt Trym.underlying39 i50 ?_
                      simp only [Act.put, List.setIfInBounds_toArray, List.set_cons_zero, List.set_cons_succ]
                      refine lex_field 50 _ 1 b3 (off3 + k * 21) 20 _ _ (by kernel_rfl) rfl rfl Trym.underlying50 rfl i49 rfl ?_
                      simp only [Act.put, List.setIfInBounds_toArray, List.set_cons_zero, List.set_cons_succ]
                      refine lex_load1 49 _ b3 (off3 + k * 21 + 20) (tv k) (by kernel_rfl) rfl rfl (fun _ h => h.2.2) (fun w => Trym.isAgg49 w) ?_
                      simp only [Act.put, List.setIfInBounds_toArray, List.set_cons_zero, List.set_cons_succ]
                      refine lex_solek (by kernel_rfl) (by kernel_rfl) (fun K hK => ?_)
                      have hwrX : X4.heap.size ≤ wr.heap.size := HBL.out.size
                      have hl1 : gbi < wr.heap.size := World.block_lt_of_cell? wr _ hcbi
                      have hl2 : gbt < wr.heap.size := World.block_lt_of_cell? wr _ hcbt
                      have hl3 : b3 < wr.heap.size := World.block_lt_of_cell? wr _ hcj
                      go_simp
                      refine HTE.out.mono ?_
                      rintro e wd ⟨rfl, hbd⟩
                      refine hK.out _ _ ⟨(hbd.cell (p := ⟨gbi, 0 + k * 1, none⟩) hl1).trans hcbi, (hbd.cell (p := ⟨gbt, 0 + k * 1, none⟩) hl2).trans hcbt, (hbd.cell (p := ⟨b3, off3 + k * 21 + 20, none⟩) hl3).trans hcj⟩ ?_
                      clear hK HTE
                      try simp only [Act.put, List.setIfInBounds_toArray, List.set_cons_zero, List.set_cons_succ]
                      refine lex_not 4 _ true (by kernel_rfl) rfl rfl ?_
                      simp only [Act.put, List.setIfInBounds_toArray, List.set_cons_zero, List.set_cons_succ]
                      refine lex_pickF _ _ _ (.bool false) rfl rfl rfl rfl ?_
                      simp only [Act.put, List.setIfInBounds_toArray, List.set_cons_zero, List.set_cons_succ]
                      refine lex_nil (NoPanic.normal ?_)
                      have HBD := hide (show Below X4.heap.size X4 wd from HBL.out.drew.trans (hbd.mono HBL.out.size))
                      clear hcbi hcbt hcj hbd HBL hwrX hl1 hl2 hl3
                      go_wp2
                      refine ⟨⟨_, _, _, _, _, _, _, _, _, _, _, _, _, _, _, _, _, _, _, _, _, _, _, _, _, _, _, _, _, _, _, _, _, _, _, _, _, _, _, _, _, _, _, _, ⟨k + 1, by omega, by go_num, by rw [hlf2.out]; go_num, by rw [hlf2.out]; omega, HBD.out⟩, rfl⟩, ?_⟩
                      simp [intOf]; omega
                  · have hkn : nb = k := by omega
                    subst hkn
                    have HB := hide hbel
                    clear hbel hll hlt hk
                    have hlf9 := HLF.out
                    generalize ((leftN bid wid wn nw ids n nb : Nat) : Int) = lq at *
                    subst hlf9
                    clear HLF
                    obtain ⟨api, cpi, rfl, hpo⟩ := HX4.out.2.2.2.2.2.2.1.open
                    have HPO := hide hpo
                    clear hpo
                    go_wp2
                    go_loopw [26, 27] (fun pr i wr => ∃ p : Nat, p ≤ L.length ∧ i = .int .i64 p ∧ pr = .int .i64 (presN (decL (G0 wid wn nw) (Rof bid nb tn tt wid wn nw ids n)) (lid L) p : Int) ∧ Below X4.heap.size X4 wr) (fun _ i _ => L.length - (intOf i).toNat)
                    case atStart => exact ⟨0, Nat.zero_le _, rfl, rfl, HB.out⟩
                    case round =>
                      obtain ⟨p, hp, rfl, rfl, hbel⟩ := hrel
                      by_cases hlt : p < L.length
                      · obtain ⟨b, off, rfl, hrow⟩ := HPO.out p hlt
                        have hlx : (lid L p).length = 20 := HX4.out.2.2.2.2.2.2.2 p hlt
                        have hra0 := hrow p hlt
                        have hbw : b < X4.heap.size := rangeAt_lt hra0 (by rw [idc_length, hlx]; omega)
                        have hra : wr.rangeAt b (off + p * 20) (idc (lid L p)) := rangeAt_below hbel hbw hra0
                        have hdm := dec_model (tn := tn) (tt := tt) (wid := wid) (wn := wn) (nw := nw) (ids := ids) (n := n) H18.out (lid L p)
                        have hgwi : gwi < X4.heap.size := World.block_lt_of_cell? X4 _ (HZb.out.2.2.1 p hlt)
                        have hgwn : gwn < X4.heap.size := World.block_lt_of_cell? X4 _ (HZb.out.2.2.2 p hlt)
                        have hcwi := HZb.out.2.2.1 p hlt
                        have hcwn := HZb.out.2.2.2 p hlt
                        rw [hdm.1] at hcwi
                        rw [hdm.2] at hcwn
                        have hpn : Hid (presN (decL (G0 wid wn nw) (Rof bid nb tn tt wid wn nw ids n)) (lid L) (p + 1) = presN (decL (G0 wid wn nw) (Rof bid nb tn tt wid wn nw ids n)) (lid L) p + (if wantStand (waitIn wid nw (lid L p)) (waitN wid wn nw (lid L p)) (kcnt bid tn tt wid wn nw ids n (lid L p) nb) then 1 else 0)) := hide (by rw [presN, hdm.1])
                        have hpl := presN_le (decL (G0 wid wn nw) (Rof bid nb tn tt wid wn nw ids n)) (lid L) p
                        generalize presN (decL (G0 wid wn nw) (Rof bid nb tn tt wid wn nw ids n)) (lid L) p = pq at *
                        clear hdm hra0 hrow
                        generalize lid L p = x at *
                        obtain ⟨z, hzs, hz⟩ := zero_of e34
                        obtain ⟨hnr, hnk, hnt⟩ := newvar wr z 34 (idc x) (by rw [hzs, idc_length, hlx])
                        have hraA : (wr.alloc (.cells z.cells 34)).rangeAt b (off + p * 20) (idc x) := World.rangeAt_alloc hra _
                        have hraS := hnk.range hra (by simp)
                        have hbel1 : Below X4.heap.size X4 ((wr.alloc (.cells z.cells 34)).setCells wr.heap.size 0 (idc x)) := hbel.trans (hnk.below hbel.size (by simp))
                        have hpbX : X4.heap.size ≤ wr.heap.size := hbel.size
                        have HT := hide hnt
                        have HO := hide (And.intro hbel1 (And.intro hcwi hcwn))
                        clear hbel hbel1 hnt hnk hcwi hcwn
                        go_upto_region 45 with fail
                        refine wp_region_lexp (fun w' => w'.rangeAt b (off + p * 20) (idc x)) hra ?_
                        refine lex_mv (.slice (some ⟨b, off, none⟩) L.length cpi) _ rfl rfl rfl ?_
                        simp only [Act.put, List.setIfInBounds_toArray, List.set_cons_zero, List.set_cons_succ]
                        refine lex_mv (.int .i64 (p : Int)) _ rfl rfl rfl ?_
                        simp only [Act.put, List.setIfInBounds_toArray, List.set_cons_zero, List.set_cons_succ]
                        refine lex_index 28 34 _ _ b off L.length cpi p 20 rfl rfl rfl rfl hlt Trym.underlying28 i34 ?_
                        simp only [Act.put, List.setIfInBounds_toArray, List.set_cons_zero, List.set_cons_succ]
                        refine lex_load 34 _ b (off + p * 20) (idc x) _ rfl rfl rfl (fun _ h => h) Trym.underlying34 rfl (by rw [i34, idc_length, hlx]) ?_
                        simp only [Act.put, List.setIfInBounds_toArray, List.set_cons_zero, List.set_cons_succ]
                        refine lex_alloc 34 z rfl rfl rfl (hz _) hraA ?_
                        simp only [Act.put, List.setIfInBounds_toArray, List.set_cons_zero, List.set_cons_succ]
                        refine lex_store 34 _ _ wr.heap.size 0 (idc x).toArray rfl rfl rfl rfl rfl (by rw [List.size_toArray]; exact HT.out) (by rw [i34, List.size_toArray, idc_length, hlx]) (all_oneCell_toArray (idc_one _)) hraS ?_
                        simp only [Act.put, List.setIfInBounds_toArray, List.set_cons_zero, List.set_cons_succ]
                        refine lex_nil (NoPanic.normal ?_)
                        clear hra hraA hraS HT hz hzs
                        generalize hW1 : (wr.alloc (.cells z.cells 34)).setCells wr.heap.size 0 (idc x) = W1 at *
                        clear hW1
                        generalize wr.heap.size = pb at *
                        go_upto_region 46 with fail
                        refine wp_region_lexp (fun w' => True) trivial ?_
                        refine lex_mv (.slice aw6 nw cw6) _ rfl rfl rfl ?_
                        simp only [Act.put, List.setIfInBounds_toArray, List.set_cons_zero, List.set_cons_succ]
                        refine lex_loadx 34 _ pb 0 (idc x) _ rfl rfl rfl rfl hnr Trym.underlying34 rfl (by rw [i34, idc_length, hlx]) trivial ?_
                        simp only [Act.put, List.setIfInBounds_toArray, List.set_cons_zero, List.set_cons_succ]
                        refine lex_solek rfl rfl (fun K hK => ?_)
                        have hpW1 : pb < W1.heap.size := rangeAt_lt hnr (by rw [idc_length, hlx]; omega)
                        have hwo := waitOf_any (.slice aw6 nw cw6) nw wid wn x W1 hnw hlx (HX4.out.2.2.2.1.below HO.out.1 (Nat.le_refl _))
                        have HWO := hide hwo
                        clear hwo
                        go_simp
                        refine HWO.out.mono ?_
                        rintro e W2 ⟨rfl, hb2⟩
                        refine hK.out _ _ trivial ?_
                        clear hK HWO
                        try simp only [Act.put, List.setIfInBounds_toArray, List.set_cons_zero, List.set_cons_succ]
                        refine lex_mv (.tuple #[.int .i64 (waitN wid wn nw x), .bool (waitIn wid nw x)]) _ rfl rfl rfl ?_
                        simp only [Act.put, List.setIfInBounds_toArray, List.set_cons_zero, List.set_cons_succ]
                        refine lex_extract _ 0 #[.int .i64 (waitN wid wn nw x), .bool (waitIn wid nw x)] (.int .i64 (waitN wid wn nw x)) rfl rfl rfl rfl ?_
                        simp only [Act.put, List.setIfInBounds_toArray, List.set_cons_zero, List.set_cons_succ]
                        refine lex_extract _ 1 #[.int .i64 (waitN wid wn nw x), .bool (waitIn wid nw x)] (.bool (waitIn wid nw x)) rfl rfl rfl rfl ?_
                        simp only [Act.put, List.setIfInBounds_toArray, List.set_cons_zero, List.set_cons_succ]
                        refine lex_as (.int .i64 (waitN wid wn nw x)) _ rfl rfl rfl ?_
                        simp only [Act.put, List.setIfInBounds_toArray, List.set_cons_zero, List.set_cons_succ]
                        refine lex_as (.bool (waitIn wid nw x)) _ rfl rfl rfl ?_
                        simp only [Act.put, List.setIfInBounds_toArray, List.set_cons_zero, List.set_cons_succ]
                        refine lex_nil (NoPanic.normal ?_)
                        have hr2 := rangeAt_below hb2 hpW1 hnr
                        have HB2 := hide (And.intro (HO.out.1.trans (hb2.mono HO.out.1.size)) hr2)
                        clear hr2 hb2 hnr
                        go_wp2
                        go_loopw [31, 32] (fun kk i wr => ∃ e : Nat, e ≤ nb ∧ i = .int .i64 e ∧ kk = .int .i64 (kcnt bid tn tt wid wn nw ids n x e : Int) ∧ wr.rangeAt pb 0 (idc x) ∧ Below X4.heap.size X4 wr) (fun _ i _ => nb - (intOf i).toNat)
                        case atStart => exact ⟨0, Nat.zero_le _, rfl, rfl, HB2.out.2, HB2.out.1⟩
                        case round =>
                          obtain ⟨e, he, rfl, rfl, hrx, hbel⟩ := hrel
                          by_cases hle : e < nb
                          · have hgtX : gt < X4.heap.size := by
                              rcases HGT.out with h | h
                              · exact h
                              · omega
                            have hctk : wr.cell? ⟨gt, 0 + e * 1, none⟩ = some (.bool (tk bid wid wn nw ids n e)) := by
                              rw [show 0 + e * 1 = e by omega]
                              exact (hbel.cell (p := ⟨gt, e, none⟩) hgtX).trans (HX4.out.2.2.2.2.1 e hle)
                            have hks : Hid (kcnt bid tn tt wid wn nw ids n x (e + 1) = kcnt bid tn tt wid wn nw ids n x e + (if tk bid wid wn nw ids n e then cntT (tt e) x (tn e) else 0)) := hide rfl
                            have hkl := kcnt_le (bid := bid) (tn := tn) (tt := tt) (wid := wid) (wn := wn) (nw := nw) (ids := ids) (n := n) x HTN.out e he
                            generalize kcnt bid tn tt wid wn nw ids n x e = ke at *
                            have HBX := hide (And.intro hrx hbel)
                            clear hrx hbel
                            go_upto_region 51 with fail
                            refine wp_region_lexp (fun w' => True) trivial ?_
                            refine lex_mv (.slice (some ⟨gt, 0, none⟩) nb nb) _ rfl rfl rfl ?_
                            simp only [Act.put, List.setIfInBounds_toArray, List.set_cons_zero, List.set_cons_succ]
                            refine lex_mv (.int .i64 (e : Int)) _ rfl rfl rfl ?_
                            simp only [Act.put, List.setIfInBounds_toArray, List.set_cons_zero, List.set_cons_succ]
                            refine lex_index 46 4 _ _ gt 0 nb nb e 1 rfl rfl rfl rfl hle Trym.underlying46 i4 ?_
                            simp only [Act.put, List.setIfInBounds_toArray, List.set_cons_zero, List.set_cons_succ]
                            refine lex_load1x 4 _ gt (0 + e * 1) (.bool (tk bid wid wn nw ids n e)) rfl rfl rfl rfl hctk (fun w => Trym.isAgg4 w) trivial ?_
                            simp only [Act.put, List.setIfInBounds_toArray, List.set_cons_zero, List.set_cons_succ]
                            refine lex_not 4 _ (tk bid wid wn nw ids n e) rfl rfl rfl ?_
                            simp only [Act.put, List.setIfInBounds_toArray, List.set_cons_zero, List.set_cons_succ]
                            refine lex_nil (NoPanic.normal ?_)
                            clear hctk hgtX
                            cases htk9 : tk bid wid wn nw ids n e with
                            | false =>
                              have hk2 : Hid (kcnt bid tn tt wid wn nw ids n x (e + 1) = ke) := hide (by rw [hks.out, htk9]; rfl)
                              clear htk9 hks
                              go_wp2
                              refine ⟨⟨e + 1, by omega, by go_num, by rw [hk2.out], HBX.out.1, HBX.out.2⟩, ?measure⟩
                              case measure => simp [intOf]; omega
                            | true =>
                              have hk2 : Hid (kcnt bid tn tt wid wn nw ids n x (e + 1) = ke + cntT (tt e) x (tn e)) := hide (by rw [hks.out, htk9]; rfl)
                              clear htk9 hks
                              obtain ⟨ab', cb', eb, hbo⟩ := HX4.out.1.1.open
                              obtain ⟨b3, off3, ea3, hrow3⟩ := hbo e hle
                              obtain ⟨rfl, -, -⟩ := (Value.slice.injEq _ _ _ _ _ _).mp eb
                              subst ea3
                              have hlb := HX4.out.1.2 e hle
                              have hrb0 := hrow3 e hle
                              have hbw3 : b3 < X4.heap.size := rangeAt_lt hrb0 (by simp [ent])
                              have hcj : wr.cell? ⟨b3, off3 + e * 21 + 20, none⟩ = some (tv e) := rangeAt_head (rangeAt_right (rangeAt_below HBX.out.2 hbw3 hrb0) (by rw [idc_length, hlb]))
                              obtain ⟨at6, ct6, htve, hto6⟩ := (HX4.out.2.1 e hle).1.open
                              rw [htve] at hcj
                              have htne := HTN.out e hle
                              have HTO := hide (And.intro hto6 (HX4.out.2.1 e hle).2)
                              clear hto6 htve hrb0 hrow3 hbo eb
                              go_upto_region 52 with fail
                              refine wp_region_lexp (fun w' => True) trivial ?_
                              refine lex_mv (.slice (some ⟨b3, off3, none⟩) nb cb4) _ rfl rfl rfl ?_
                              simp only [Act.put, List.setIfInBounds_toArray, List.set_cons_zero, List.set_cons_succ]
                              refine lex_mv (.int .i64 (e : Int)) _ rfl rfl rfl ?_
                              simp only [Act.put, List.setIfInBounds_toArray, List.set_cons_zero, List.set_cons_succ]
                              refine lex_index 39 50 _ _ b3 off3 nb cb4 e 21 rfl rfl rfl rfl hle Trym.underlying39 i50 ?_
                              simp only [Act.put, List.setIfInBounds_toArray, List.set_cons_zero, List.set_cons_succ]
                              refine lex_field 50 _ 1 b3 (off3 + e * 21) 20 _ _ rfl rfl rfl Trym.underlying50 rfl i49 rfl ?_
                              simp only [Act.put, List.setIfInBounds_toArray, List.set_cons_zero, List.set_cons_succ]
                              refine lex_load1x 49 _ b3 (off3 + e * 21 + 20) (.slice at6 (tn e) ct6) rfl rfl rfl rfl hcj (fun w => Trym.isAgg49 w) trivial ?_
                              simp only [Act.put, List.setIfInBounds_toArray, List.set_cons_zero, List.set_cons_succ]
                              refine lex_as (.slice at6 (tn e) ct6) _ rfl rfl rfl ?_
                              simp only [Act.put, List.setIfInBounds_toArray, List.set_cons_zero, List.set_cons_succ]
                              refine lex_nil (NoPanic.normal ?_)
                              clear hcj
                              go_wp2
                              generalize wr = W5 at *
                              go_loopw [31, 34] (fun kk i wr => ∃ t : Nat, t ≤ tn e ∧ i = .int .i64 t ∧ kk = .int .i64 ((ke + cntT (tt e) x t : Nat) : Int) ∧ wr.rangeAt pb 0 (idc x) ∧ Below X4.heap.size X4 wr) (fun _ i _ => tn e - (intOf i).toNat)
                              case atStart => exact ⟨0, Nat.zero_le _, rfl, rfl, HBX.out.1, HBX.out.2⟩
                              case round =>
                                obtain ⟨t, ht, rfl, rfl, hrx, hbel⟩ := hrel
                                by_cases hlt6 : t < tn e
                                · obtain ⟨b6, off6, rfl, hrow6⟩ := HTO.out.1 t hlt6
                                  have hok6 := HTO.out.2 t hlt6
                                  have hr60 := hrow6 t hlt6
                                  have hbw6 : b6 < X4.heap.size := rangeAt_lt hr60 (by rw [trc_length hok6]; omega)
                                  have hr6 : wr.rangeAt b6 (off6 + t * 43 + 0) (idc (tt e t).id) := (trc_range (rangeAt_below hbel hbw6 hr60) hok6).1
                                  have hcl := cntT_le (tt e) x t
                                  have hcs : Hid (cntT (tt e) x (t + 1) = cntT (tt e) x t + (if (tt e t).id == x then 1 else 0)) := hide rfl
                                  generalize cntT (tt e) x t = ct at *
                                  generalize hkc : ke + ct = kc at *
                                  have HKC := hide hkc
                                  have hkcb : kc ≤ 100000000 := by have : e * 4096 ≤ 4096 * 4096 := Nat.mul_le_mul_right _ (by omega); omega
                                  clear hkc
                                  have HB6 := hide (And.intro hrx hbel)
                                  clear hrow6 hr60 hbel
                                  go_upto_region 56 with fail
                                  refine wp_region_lex (fun w' => w'.rangeAt b6 (off6 + t * 43 + 0) (idc (tt e t).id) ∧ w'.rangeAt pb 0 (idc x)) (by kernel_rfl) (by kernel_rfl) ⟨(World.rangeAt_drew _ _ _ _).2 hr6, (World.rangeAt_drew _ _ _ _).2 hrx⟩ ?_
                                  refine lex_mv (.slice (some ⟨b6, off6, none⟩) (tn e) ct6) _ rfl rfl rfl ?_
                                  simp only [Act.put, List.setIfInBounds_toArray, List.set_cons_zero, List.set_cons_succ]
                                  refine lex_mv (.int .i64 (t : Int)) _ rfl rfl rfl ?_
                                  simp only [Act.put, List.setIfInBounds_toArray, List.set_cons_zero, List.set_cons_succ]
                                  refine lex_index 49 60 _ _ b6 off6 (tn e) ct6 t 43 rfl rfl rfl rfl hlt6 Trym.underlying49 i60 ?_
                                  simp only [Act.put, List.setIfInBounds_toArray, List.set_cons_zero, List.set_cons_succ]
                                  refine lex_field 60 _ 0 b6 (off6 + t * 43) 0 _ _ rfl rfl rfl Trym.underlying60 rfl i34 rfl ?_
                                  simp only [Act.put, List.setIfInBounds_toArray, List.set_cons_zero, List.set_cons_succ]
                                  refine lex_load 34 _ b6 (off6 + t * 43 + 0) (idc (tt e t).id) _ rfl rfl rfl (fun _ h => h.1) Trym.underlying34 rfl (by rw [i34, idc_length, hok6.1]) ?_
                                  simp only [Act.put, List.setIfInBounds_toArray, List.set_cons_zero, List.set_cons_succ]
                                  refine lex_load 34 _ pb 0 (idc x) _ rfl rfl rfl (fun _ h => h.2) Trym.underlying34 rfl (by rw [i34, idc_length, hlx]) ?_
                                  simp only [Act.put, List.setIfInBounds_toArray, List.set_cons_zero, List.set_cons_succ]
                                  refine lex_bin .eql 34 34 _ _ (.agg (idc (tt e t).id).toArray) (.agg (idc x).toArray) (.bool ((tt e t).id == x)) rfl rfl rfl rfl (guard34 _ _ _ _ _) (eql34 (tt e t).id x hok6.1 hlx) ?_
                                  simp only [Act.put, List.setIfInBounds_toArray, List.set_cons_zero, List.set_cons_succ]
                                  refine lex_nil (NoPanic.normal ?_)
                                  clear hr6 hrx
                                  cases hq6 : ((tt e t).id == x) with
                                  | true =>
                                    have hc2 : Hid (ke + cntT (tt e) x (t + 1) = kc + 1) := hide (by rw [hcs.out, hq6, ← HKC.out]; rfl)
                                    clear hq6 hcs
                                    go_wp2
                                    refine ⟨⟨t + 1, by omega, by go_num, by rw [hc2.out]; go_num, HB6.out.1, HB6.out.2.drew⟩, ?measure⟩
                                    case measure => simp [intOf]; omega
                                  | false =>
                                    have hc2 : Hid (ke + cntT (tt e) x (t + 1) = kc) := hide (by rw [hcs.out, hq6, ← HKC.out]; rfl)
                                    clear hq6 hcs
                                    go_wp2
                                    refine ⟨⟨t + 1, by omega, by go_num, by rw [hc2.out], HB6.out.1, HB6.out.2.drew⟩, ?measure⟩
                                    case measure => simp [intOf]; omega
                                · have htn6 : t = tn e := by omega
                                  have HB6 := hide (And.intro hrx (And.intro hbel htn6))
                                  have hge : ¬ ((t : Nat) : Int) < ((tn e : Nat) : Int) := by omega
                                  clear hrx hbel htn6 hlt6
                                  go_wp2
                                  refine ⟨⟨e + 1, by omega, by go_num, by rw [hk2.out, ← HB6.out.2.2], HB6.out.1, HB6.out.2.1⟩, ?measure⟩
                                  case measure => simp [intOf]; omega
                          · have hkn : nb = e := by omega
                            subst hkn
                            have hwi : wr.cell? ⟨gwi, p, none⟩ = _ := (hbel.cell (p := ⟨gwi, p, none⟩) hgwi).trans HO.out.2.1
                            have hwn : wr.cell? ⟨gwn, p, none⟩ = _ := (hbel.cell (p := ⟨gwn, p, none⟩) hgwn).trans HO.out.2.2
                            have hkl := kcnt_le (bid := bid) (tn := tn) (tt := tt) (wid := wid) (wn := wn) (nw := nw) (ids := ids) (n := n) x HTN.out nb (Nat.le_refl _)
                            have HBE := hide hbel
                            clear hbel hrx hle he HB2 hgwi hgwn HO
                            have hpn9 := hpn.out
                            generalize kcnt bid tn tt wid wn nw ids n x nb = kk at *
                            generalize waitN wid wn nw x = n0 at *
                            generalize waitIn wid nw x = in0 at *
                            by_cases h0 : kk = 0
                            · subst h0
                              simp only [wantStand, wantNum, if_pos] at hwi hwn hpn9
                              cases in0 with
                              | true =>
                                simp only [if_true] at hwn hpn9
                                have HPN := hide hpn9
                                clear hpn9 hpn
                                go_wp2
                                refine ⟨⟨_, _, _, _, _, _, _, _, _, _, _, _, _, _, _, _, _, _, _, _, _, _, _, _, _, _, _, _, _, _, _, _, _, _, _, _, _, _, _, _, _, _, _, _, _, _, _, _, _, _, _, _, _, _, _, _, _, _, _, _, _, _, _, _, _, _, _, _, _, _, _, _, _, _, _, _, _, _, _, _, _, _, _, _, _, _, _, _, ⟨p + 1, by omega, by go_num, by rw [HPN.out]; go_num, HBE.out⟩, rfl⟩, ?measure⟩
                                case measure => simp [intOf]; omega
                              | false =>
                                simp only [Bool.false_eq_true, if_false] at hwn hpn9
                                have HPN := hide hpn9
                                clear hpn9 hpn
                                go_wp2
                                refine ⟨⟨_, _, _, _, _, _, _, _, _, _, _, _, _, _, _, _, _, _, _, _, _, _, _, _, _, _, _, _, _, _, _, _, _, _, _, _, _, _, _, _, _, _, _, _, _, _, _, _, _, _, _, _, _, _, _, _, _, _, _, _, _, _, _, _, _, _, _, _, _, _, _, _, _, _, _, _, _, _, _, _, _, _, _, _, _, _, _, _, ⟨p + 1, by omega, by go_num, by rw [HPN.out]; rfl, HBE.out⟩, rfl⟩, ?measure⟩
                                case measure => simp [intOf]; omega
                            · have hkpos : (0 : Int) < (kk : Int) := by omega
                              simp only [wantStand, wantNum, if_neg h0] at hwi hwn hpn9
                              generalize hv : IntKind.i64.wrap (n0 - (kk : Int)) = vv at *
                              by_cases hv0 : vv = 0
                              · subst hv0
                                simp at hwi hwn hpn9
                                have HPN := hide hpn9
                                clear hpn9 hpn h0
                                go_wp2
                                refine ⟨⟨_, _, _, _, _, _, _, _, _, _, _, _, _, _, _, _, _, _, _, _, _, _, _, _, _, _, _, _, _, _, _, _, _, _, _, _, _, _, _, _, _, _, _, _, _, _, _, _, _, _, _, _, _, _, _, _, _, _, _, _, _, _, _, _, _, _, _, _, _, _, _, _, _, _, _, _, _, _, _, _, _, _, _, _, _, _, _, _, ⟨p + 1, by omega, by go_num, by rw [HPN.out], HBE.out⟩, rfl⟩, ?measure⟩
                                case measure => simp [intOf]; omega
                              · have hvb : (vv != 0) = true := by simpa using hv0
                                rw [hvb] at hwi hwn hpn9
                                simp only [if_true] at hwn hpn9
                                have HPN := hide hpn9
                                clear hpn9 hpn h0
                                go_wp2
                                refine ⟨⟨_, _, _, _, _, _, _, _, _, _, _, _, _, _, _, _, _, _, _, _, _, _, _, _, _, _, _, _, _, _, _, _, _, _, _, _, _, _, _, _, _, _, _, _, _, _, _, _, _, _, _, _, _, _, _, _, _, _, _, _, _, _, _, _, _, _, _, _, _, _, _, _, _, _, _, _, _, _, _, _, _, _, _, _, _, _, _, _, ⟨p + 1, by omega, by go_num, by rw [HPN.out]; go_num, HBE.out⟩, rfl⟩, ?measure⟩
                                case measure => simp [intOf]; omega
                      · have hkp : L.length = p := by omega
                        subst hkp
                        have HBP := hide hbel
                        clear hbel hlt hp
                        have hpr9 := HPR.out
                        generalize ((presN (decL (G0 wid wn nw) (Rof bid nb tn tt wid wn nw ids n)) (lid L) L.length : Nat) : Int) = pq at *
                        subst hpr9
                        clear HPR
                        have hneq := neq_nil28 ai5 n n
                        cases ai5 with
                        | none =>
                          have hn0 : n = 0 := by
                            rcases HX4.out.2.2.1.1 with ⟨h1, h2⟩ | ⟨b9, o9, c9, h1, _⟩
                            · exact h2
                            · cases h1
                          subst hn0
                          have hbn : ba = .slice none 0 0 := HZ.out.2.2.2.2 rfl
                          subst hbn
                          go_wp2
                          refine wp_loop_rounds 1 ?_
                          rw [rounds_succ]
                          go_upto_region 82 with fail
                          refine wp_region_lexp (fun w' => True) trivial ?_
                          refine lex_mv (.slice none 0 0) _ rfl rfl rfl ?_
                          simp only [Act.put, List.setIfInBounds_toArray, List.set_cons_zero, List.set_cons_succ]
                          refine lex_mv (.slice none 0 0) _ rfl rfl rfl ?_
                          simp only [Act.put, List.setIfInBounds_toArray, List.set_cons_zero, List.set_cons_succ]
                          refine lex_solek rfl rfl (fun K hK => ?_)
                          go_simp
                          refine (idsEq_nil wr).mono ?_
                          rintro e wz ⟨rfl, hbz⟩
                          refine hK.out _ _ trivial ?_
                          clear hK
                          try simp only [Act.put, List.setIfInBounds_toArray, List.set_cons_zero, List.set_cons_succ]
                          refine lex_as (.bool true) _ rfl rfl rfl ?_
                          simp only [Act.put, List.setIfInBounds_toArray, List.set_cons_zero, List.set_cons_succ]
                          refine lex_nil (NoPanic.normal ?_)
                          go_wp2
                          go_ret
                          exact ⟨rfl, HX4.out.2.2.2.2.2.1.trans ((HBP.out.trans (hbz.mono HBP.out.size)).mono HX4.out.2.2.2.2.2.1.size)⟩
                        | some a5 =>
                          obtain ⟨b, off, ea5, hrow⟩ : ∃ b off, a5 = ⟨b, off, none⟩ ∧ WRow X4 b off n 20 (fun i => idc (ids i)) := by
                            rcases HX4.out.2.2.1.1 with ⟨h1, _⟩ | ⟨b9, o9, c9, h1, h2⟩
                            · cases h1
                            · cases h1
                              exact ⟨b9, o9, rfl, h2⟩
                          subst ea5
                          obtain ⟨i0, hi1, hi2⟩ := Option.map_eq_some_iff.1 e34
                          obtain ⟨z0, hz1, hz2⟩ := Option.map_eq_some_iff.1 (Prod.mk.inj hi2).1
                          have hs0 : i0.size = 20 := (Prod.mk.inj (Prod.mk.inj hi2).2).1
                          have hb0 : i0.bytes = 20 := (Prod.mk.inj (Prod.mk.inj hi2).2).2
                          obtain ⟨wm, hmk, hown0, hgr0⟩ := run_make_own (P := Trym.prog) wr X4.heap.size 28 34 i0 z0 20 Trym.underlying28 hi1 hz1 hs0 .i64 .i64 n (by rw [hb0]; omega) (by simp only [maxLen]; omega) HBP.out.size
                          have H0 : Hid (OwnIds wm X4.heap.size 34 (.slice (some ⟨wr.heap.size, 0, none⟩) 0 n) [] ∧ Below X4.heap.size X4 wm) := hide ⟨⟨⟨hown0, fun x hx => by simp at hx⟩, fun x hx => by simp at hx⟩, HBP.out.grown hgr0 HBP.out.size (fun k hk => by simp at hk)⟩
                          have HRW := hide hrow
                          clear hi1 hi2 hz1 hz2 hs0 hb0 hown0 hgr0 hrow
                          go_wp2
                          clear hmk hneq
                          generalize wr = wr0 at *
                          go_loopw [37, 38] (fun o i wq => ∃ k : Nat, k ≤ n ∧ i = .int .i64 k ∧ OwnIds wq X4.heap.size 34 o ((idl ids k).filter (inB bid nb wid wn nw ids n)) ∧ o ≠ .slice none 0 0 ∧ Below X4.heap.size X4 wq) (fun _ i _ => n - (intOf i).toNat)
                          case atStart => exact ⟨0, Nat.zero_le _, rfl, H0.out.1, by simp, H0.out.2⟩
                          case round =>
                            obtain ⟨k, hk, rfl, hown, hne, hbel⟩ := hrel
                            clear H0
                            by_cases hlt : k < n
                            · have hlx := HX4.out.2.2.1.2 k hlt
                              have hra0 := HRW.out k hlt
                              have hbw : b < X4.heap.size := rangeAt_lt hra0 (by rw [idc_length, hlx]; omega)
                              have hra : wr.rangeAt b (off + k * 20) (idc (ids k)) := rangeAt_below hbel hbw hra0
                              have hib := inB_ids (wid := wid) (wn := wn) (nw := nw) (ids := ids) (n := n) H18.out hlt
                              have hfs : Hid ((idl ids (k + 1)).filter (inB bid nb wid wn nw ids n) = if inB bid nb wid wn nw ids n (ids k) then (idl ids k).filter (inB bid nb wid wn nw ids n) ++ [ids k] else (idl ids k).filter (inB bid nb wid wn nw ids n)) := hide (by rw [idl_succ, filter_snoc])
                              have hfl : ((idl ids k).filter (inB bid nb wid wn nw ids n)).length ≤ k := Nat.le_trans (List.length_filter_le _ _) (by simp [idl])
                              have HIB := hide hib
                              have HW := hide (And.intro hown (And.intro hne hbel))
                              clear hown hne hbel hra0 hib
                              go_upto_region 79 with fail
                              refine wp_region_lexp (fun w' => True) trivial ?_
                              refine lex_mv (.slice ab4 nb cb4) _ rfl rfl rfl ?_
                              simp only [Act.put, List.setIfInBounds_toArray, List.set_cons_zero, List.set_cons_succ]
                              refine lex_mv (.slice (some ⟨b, off, none⟩) n n) _ rfl rfl rfl ?_
                              simp only [Act.put, List.setIfInBounds_toArray, List.set_cons_zero, List.set_cons_succ]
                              refine lex_mv (.int .i64 (k : Int)) _ rfl rfl rfl ?_
                              simp only [Act.put, List.setIfInBounds_toArray, List.set_cons_zero, List.set_cons_succ]
                              refine lex_index 28 34 _ _ b off n n k 20 rfl rfl rfl rfl hlt Trym.underlying28 i34 ?_
                              simp only [Act.put, List.setIfInBounds_toArray, List.set_cons_zero, List.set_cons_succ]
                              refine lex_loadx 34 _ b (off + k * 20) (idc (ids k)) _ rfl rfl rfl rfl hra Trym.underlying34 rfl (by rw [i34, idc_length, hlx]) trivial ?_
                              simp only [Act.put, List.setIfInBounds_toArray, List.set_cons_zero, List.set_cons_succ]
                              refine lex_solek rfl rfl (fun K hK => ?_)
                              have hbx := baseIdx_any (.slice ab4 nb cb4) nb bid tv (ids k) wr hnb hlx (HX4.out.1.below HW.out.2.2 (Nat.le_refl _))
                              have HBX := hide hbx
                              clear hbx
                              go_simp
                              refine HBX.out.mono ?_
                              rintro e wc ⟨rfl, hbc⟩
                              refine hK.out _ _ trivial ?_
                              clear hK HBX
                              try simp only [Act.put, List.setIfInBounds_toArray, List.set_cons_zero, List.set_cons_succ]
                              refine lex_as (.int .i64 (baseIx bid nb (ids k))) _ rfl rfl rfl ?_
                              simp only [Act.put, List.setIfInBounds_toArray, List.set_cons_zero, List.set_cons_succ]
                              refine lex_nil (NoPanic.normal ?_)
                              have hbelc : Below X4.heap.size X4 wc := HW.out.2.2.trans (hbc.mono HW.out.2.2.size)
                              have hrac : wc.rangeAt b (off + k * 20) (idc (ids k)) := rangeAt_below hbc (Nat.lt_of_lt_of_le hbw HW.out.2.2.size) hra
                              have HWc := hide (And.intro (HW.out.1.below hbc (Nat.le_refl _)) (And.intro HW.out.2.1 hbelc))
                              clear hbelc HW hbc hra
                              cases hf : findId bid (ids k) nb with
                              | none =>
                                have hbe : baseIx bid nb (ids k) = -1 := by unfold baseIx; rw [hf]
                                have hst : Hid ((idl ids (k + 1)).filter (inB bid nb wid wn nw ids n) = (idl ids k).filter (inB bid nb wid wn nw ids n)) := hide (by rw [hfs.out, HIB.out, hf]; rfl)
                                rw [hbe]
                                have HN := HWc
                                clear hbe hf hfs HIB hrac
                                go_wp2
                                refine ⟨⟨_, _, _, _, _, _, _, _, _, _, _, _, _, _, _, _, _, _, _, _, _, _, _, _, _, _, _, _, _, _, _, ⟨k + 1, by omega, by go_num, by rw [hst.out]; exact HN.out.1, HN.out.2.1, HN.out.2.2⟩, rfl⟩, ?measure⟩
                                case measure => simp [intOf]; omega
                              | some j =>
                                obtain ⟨hj, _⟩ := findId_lt hf
                                have hbe : baseIx bid nb (ids k) = (j : Int) := by unfold baseIx; rw [hf]
                                have hfs2 : Hid ((idl ids (k + 1)).filter (inB bid nb wid wn nw ids n) = if (!tk bid wid wn nw ids n j) then (idl ids k).filter (inB bid nb wid wn nw ids n) ++ [ids k] else (idl ids k).filter (inB bid nb wid wn nw ids n)) := hide (by rw [hfs.out, HIB.out, hf])
                                rw [hbe]
                                clear hbe hf hfs HIB
                                have hgtX : gt < X4.heap.size := by
                                  rcases HGT.out with h | h
                                  · exact h
                                  · omega
                                have htj : wc.cell? ⟨gt, 0 + j * 1, none⟩ = some (.bool (tk bid wid wn nw ids n j)) := by
                                  rw [show 0 + j * 1 = j by omega]
                                  exact (HWc.out.2.2.cell (p := ⟨gt, j, none⟩) hgtX).trans (HX4.out.2.2.2.2.1 j hj)
                                go_upto_region 80 with fail
                                refine wp_region_lexp (fun w' => True) trivial ?_
                                refine lex_mv (.int .i64 (j : Int)) _ rfl rfl rfl ?_
                                simp only [Act.put, List.setIfInBounds_toArray, List.set_cons_zero, List.set_cons_succ]
                                refine lex_bin .geq 3 3 _ _ (.int .i64 (j : Int)) (.int .i64 0) (.bool true) rfl rfl rfl rfl (fun w => rfl) (fun w => by simp [go_sem]) ?_
                                simp only [Act.put, List.setIfInBounds_toArray, List.set_cons_zero, List.set_cons_succ]
                                refine lex_mv (.bool true) _ rfl rfl rfl ?_
                                simp only [Act.put, List.setIfInBounds_toArray, List.set_cons_zero, List.set_cons_succ]
                                refine lex_mv (.slice (some ⟨gt, 0, none⟩) nb nb) _ (by kernel_rfl) rfl rfl ?_
                                simp only [Act.put, List.setIfInBounds_toArray, List.set_cons_zero, List.set_cons_succ]
                                refine lex_mv (.int .i64 (j : Int)) _ (by kernel_rfl) rfl rfl ?_
                                simp only [Act.put, List.setIfInBounds_toArray, List.set_cons_zero, List.set_cons_succ]
                                refine lex_index 46 4 _ _ gt 0 nb nb j 1 (by kernel_rfl) rfl rfl rfl hj Trym.underlying46 i4 ?_
                                simp only [Act.put, List.setIfInBounds_toArray, List.set_cons_zero, List.set_cons_succ]
                                refine lex_load1x 4 _ gt (0 + j * 1) (.bool (tk bid wid wn nw ids n j)) rfl (by kernel_rfl) rfl rfl htj (fun w => Trym.isAgg4 w) trivial ?_
                                simp only [Act.put, List.setIfInBounds_toArray, List.set_cons_zero, List.set_cons_succ]
                                refine lex_not 4 _ (tk bid wid wn nw ids n j) (by kernel_rfl) rfl rfl ?_
                                simp only [Act.put, List.setIfInBounds_toArray, List.set_cons_zero, List.set_cons_succ]
                                refine lex_pickT _ _ _ (.bool (!tk bid wid wn nw ids n j)) rfl rfl rfl rfl ?_
                                simp only [Act.put, List.setIfInBounds_toArray, List.set_cons_zero, List.set_cons_succ]
                                refine lex_nil (NoPanic.normal ?_)
                                clear htj hgtX
                                cases htk9 : tk bid wid wn nw ids n j with
                                | true =>
                                  have hst : Hid ((idl ids (k + 1)).filter (inB bid nb wid wn nw ids n) = (idl ids k).filter (inB bid nb wid wn nw ids n)) := hide (by rw [hfs2.out, htk9]; rfl)
                                  have HN := HWc
                                  clear htk9 hfs2 hrac
                                  go_wp2
                                  refine ⟨⟨_, _, _, _, _, _, _, _, _, _, _, _, _, _, _, _, _, _, _, _, _, _, _, _, _, _, _, _, _, _, _, ⟨k + 1, by omega, by go_num, by rw [hst.out]; exact HN.out.1, HN.out.2.1, HN.out.2.2⟩, rfl⟩, ?measure⟩
                                  case measure => simp [intOf]; omega
                                | false =>
                                  have hst : Hid ((idl ids (k + 1)).filter (inB bid nb wid wn nw ids n) = (idl ids k).filter (inB bid nb wid wn nw ids n) ++ [ids k]) := hide (by rw [hfs2.out, htk9]; rfl)
                                  clear htk9 hfs2
                                  obtain ⟨v2, w2, hap, hown2, hne2, _, _, hb2⟩ := append_id Trym.underlying28 e34 28 HWc.out.1 hlx (by omega) HWc.out.2.2.size
                                  have HN := hide (And.intro hown2 (And.intro hne2 (HWc.out.2.2.trans hb2)))
                                  have HAP := hide hap
                                  clear hown2 hne2 hb2 hap HWc
                                  go_upto_region 81 with fail
                                  refine wp_region_lexp (fun w' => True) trivial ?_
                                  refine lex_mv u37 _ rfl rfl rfl ?_
                                  simp only [Act.put, List.setIfInBounds_toArray, List.set_cons_zero, List.set_cons_succ]
                                  refine lex_mv (.slice (some ⟨b, off, none⟩) n n) _ rfl rfl rfl ?_
                                  simp only [Act.put, List.setIfInBounds_toArray, List.set_cons_zero, List.set_cons_succ]
                                  refine lex_mv (.int .i64 (k : Int)) _ rfl rfl rfl ?_
                                  simp only [Act.put, List.setIfInBounds_toArray, List.set_cons_zero, List.set_cons_succ]
                                  refine lex_index 28 34 _ _ b off n n k 20 rfl rfl rfl rfl hlt Trym.underlying28 i34 ?_
                                  simp only [Act.put, List.setIfInBounds_toArray, List.set_cons_zero, List.set_cons_succ]
                                  refine lex_loadx 34 _ b (off + k * 20) (idc (ids k)) _ rfl rfl rfl rfl hrac Trym.underlying34 rfl (by rw [i34, idc_length, hlx]) trivial ?_
                                  simp only [Act.put, List.setIfInBounds_toArray, List.set_cons_zero, List.set_cons_succ]
                                  refine lex_bslice 28 1 _ #[(0, .agg (idc (ids k)).toArray)] _ _ rfl rfl rfl rfl (one_slice Trym.underlying28 e34 (by omega) (by omega) _ (by rw [idc_length, hlx]) wc) trivial ?_
                                  simp only [Act.put, List.setIfInBounds_toArray, List.set_cons_zero, List.set_cons_succ]
                                  refine lex_append 28 _ _ u37 (.slice (some ⟨wc.heap.size, 0, none⟩) 1 1) v2 w2 rfl rfl rfl rfl rfl HAP.out trivial ?_
                                  simp only [Act.put, List.setIfInBounds_toArray, List.set_cons_zero, List.set_cons_succ]
                                  refine lex_as v2 _ rfl rfl rfl ?_
                                  simp only [Act.put, List.setIfInBounds_toArray, List.set_cons_zero, List.set_cons_succ]
                                  refine lex_nil (NoPanic.normal ?_)
                                  clear HAP hrac
                                  go_wp2
                                  refine ⟨⟨_, _, _, _, _, _, _, _, _, _, _, _, _, _, _, _, _, _, _, _, _, _, _, _, _, _, _, _, _, _, _, ⟨k + 1, by omega, by go_num, by rw [hst.out]; exact HN.out.1, HN.out.2.1, HN.out.2.2⟩, rfl⟩, ?measure⟩
                                  case measure => simp [intOf]; omega
                            · have hkn : n = k := by omega
                              subst hkn
                              have hba := HZ.out.2.2
                              have hfl : ((idl ids n).filter (inB bid nb wid wn nw ids n)).length ≤ 4096 := Nat.le_trans (List.length_filter_le _ _) (by simp [idl]; exact hn)
                              have hieq := idsEq_any ba u37 _ _ wr (by omega) (hba.1.below hbel (Nat.le_refl _)) hown.view ⟨fun h => absurd (hba.2.1 h) (by simp), fun h => absurd h hne⟩
                              have HIE := hide hieq
                              have HBQ := hide hbel
                              clear hieq hbel hown hne hfl hba hlt hk
                              go_upto_region 82 with fail
                              refine wp_region_lexp (fun w' => True) trivial ?_
                              refine lex_mv ba _ rfl rfl rfl ?_
                              simp only [Act.put, List.setIfInBounds_toArray, List.set_cons_zero, List.set_cons_succ]
                              refine lex_mv u37 _ rfl rfl rfl ?_
                              simp only [Act.put, List.setIfInBounds_toArray, List.set_cons_zero, List.set_cons_succ]
                              refine lex_solek rfl rfl (fun K hK => ?_)
                              go_simp
                              refine HIE.out.mono ?_
                              rintro e wz ⟨rfl, hbz⟩
                              refine hK.out _ _ trivial ?_
                              clear hK HIE
                              try simp only [Act.put, List.setIfInBounds_toArray, List.set_cons_zero, List.set_cons_succ]
                              refine lex_as (.bool true) _ rfl rfl rfl ?_
                              simp only [Act.put, List.setIfInBounds_toArray, List.set_cons_zero, List.set_cons_succ]
                              refine lex_nil (NoPanic.normal ?_)
                              go_wp2
                              go_ret
                              exact ⟨rfl, HX4.out.2.2.2.2.2.1.trans ((HBQ.out.trans (hbz.mono HBQ.out.size)).mono HX4.out.2.2.2.2.2.1.size)⟩

end Go.Proofs.Qxb6601415aMods
