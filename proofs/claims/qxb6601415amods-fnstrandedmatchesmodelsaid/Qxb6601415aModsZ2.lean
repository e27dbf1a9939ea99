import Derived.Test.Qxb6601415aModsZ1
namespace Go.Proofs.Qxb6601415aMods
open Go.RowKit Go.Extern.Stop Go.Maps Go.ChangeMaps
set_option linter.unusedVariables false
set_option linter.unusedSimpArgs false
set_option maxRecDepth 20000
attribute [local irreducible] Lex

section
variable {P : Program} {ops : Array Oper} {Q : Exit → Act → World → Prop} {S : World → Prop} {pl : Bool} {k : Nat} {o : Oper} {rest : List Oper} {a : Act} {w : World}
theorem lex_pickT (c x y : Operand) (v : Value) (hw : Region.wanted o (yielded ops a.tmps) = true) (ho : o.op = .pick c x y) (hc : a.eval c = .bool true) (hx : a.eval x = v) (h : Lex P pl ops Q S (k + 1) rest (a.put o.dst v) w) : Lex P pl ops Q S k (o :: rest) a w :=
  lex_take hw (fun w _ => by unfold execOp; simp only [ho, hc, hx]; rfl) h
theorem lex_pickF (c x y : Operand) (v : Value) (hw : Region.wanted o (yielded ops a.tmps) = true) (ho : o.op = .pick c x y) (hc : a.eval c = .bool false) (hy : a.eval y = v) (h : Lex P pl ops Q S (k + 1) rest (a.put o.dst v) w) : Lex P pl ops Q S k (o :: rest) a w :=
  lex_take hw (fun w _ => by unfold execOp; simp only [ho, hc, hy]; rfl) h
end

section
variable {P : Program} {ops : Array Oper} {Q : Exit → Act → World → Prop} {S : World → Prop} {pl : Bool} {k : Nat} {o : Oper} {rest : List Oper} {a : Act} {w : World}
/-- A wide load that is carried out here. -/
theorem lex_loadx (ty : TypeId) (x : Operand) (b off : Nat) (cs : List Value) (d : TypeDesc) (hs : (pl || soleAt ops k) = true) (hw : Region.wanted o (yielded ops a.tmps) = true) (ho : o.op = .load ty x) (hx : a.eval x = .pointer (some ⟨b, off, none⟩))
    (hr : w.rangeAt b off cs) (hu : P.underlying ty = some d) (hd : d.isRow = true) (hi : (P.info? ty).map (·.size) = some cs.length) (hS : S w)
    (h : Lex P pl ops Q S (k + 1) rest (a.put o.dst (.agg cs.toArray)) w) : Lex P pl ops Q S k (o :: rest) a w :=
  lex_do _ w hs hw (by
    unfold execOp
    simp only [ho, hx, Instr.loadAt, Instr.sureAddr, Sem.run_bind, Sem.run_pure, Result.andThen_ok, run_loadVar_mid w b off ty cs d hr hu hd hi]) hS h
end

theorem KpB.then_grown {a w w' : World} {S : List Nat} {row : Option Nat} (h : KpB a w S) (hg : w.grownBy w' row) (hr : ∀ g, row = some g → a.heap.size ≤ g) : KpB a w' S :=
  ⟨hg.os.trans h.os, hg.tape.trans h.tape, hg.output.trans h.output, Nat.le_trans h.size hg.size, fun k hk hS => (hg.block k (Nat.lt_of_lt_of_le hk h.size) (fun e => by have := hr k e.symm; omega)).trans (h.block k hk hS)⟩
theorem KpB.then_new {a w w' : World} {S : List Nat} (h : KpB a w S) (h' : KpB w w' []) : KpB a w' S := h.trans (h'.mono (by simp))
theorem range_trl {α : Type} (f : Tr → α) (l : List Tr) : (List.range l.length).map (fun i => f (trl l i)) = l.map f := by
  refine List.ext_getElem? (fun i => ?_)
  simp only [List.getElem?_map]
  by_cases h : i < l.length
  · rw [List.getElem?_range h, List.getElem?_eq_getElem h, Option.map_some, Option.map_some, trl_get h]
  · rw [List.getElem?_eq_none (by simpa using h), List.getElem?_eq_none (by omega)]; rfl
theorem lid_snoc_lt {L : List (List UInt8)} {x : List UInt8} {i : Nat} (h : i < L.length) : lid (L ++ [x]) i = lid L i := by simp [lid, List.getD_eq_getElem?_getD, List.getElem?_append_left h]
theorem lid_snoc_eq (L : List (List UInt8)) (x : List UInt8) : lid (L ++ [x]) L.length = x := by simp [lid, List.getD_eq_getElem?_getD]
theorem lid_get {L : List (List UInt8)} {i : Nat} (h : i < L.length) : lid L i = L[i] := by simp [lid, h]

theorem WB.ne_map {w : World} {g g' : Nat} {e : TypeId} {m : Nat} {F : List UInt8 → Option Value} {K : List (List UInt8)} (h : WB w g e m) (hm : MapV w g' F K) : g ≠ g' := by
  intro e9
  subst e9
  obtain ⟨Fx, cs, hcs, _⟩ := h
  obtain ⟨D, ⟨es, clock, hb, _⟩, _⟩ := hm
  rw [hb] at hcs
  cases hcs
theorem gath_ok_from {T : List UInt8 → List Tr} : ∀ (l : List (List UInt8)) (acc : List (List UInt8) × List Tr), (∀ t ∈ acc.2, t.ok) → (∀ x ∈ l, ∀ t ∈ T x, t.ok) → ∀ t ∈ (l.foldl (gstep T) acc).2, t.ok
  | [], acc, h, _ => h
  | x :: r, acc, h, hl => by
    rw [List.foldl_cons]
    refine gath_ok_from r _ ?_ (fun y hy => hl y (by simp [hy]))
    unfold gstep
    split
    · exact h
    · intro t ht
      rcases List.mem_append.1 ht with ht | ht
      · exact h t ht
      · exact hl x (by simp) t ht
theorem trees_view {w : World} {B : Nat} {v : Value} {R : List Tr} (h : OwnW w B 91 43 v (R.map trc)) (hR : ∀ t ∈ R, t.ok) : TreesV w v R.length (trl R) := by
  have hs := h.sl
  rw [List.length_map] at hs
  have e : ∀ i, i < R.length → (R.map trc).getD i [] = trc (trl R i) := fun i hi => by simp [List.getD_eq_getElem?_getD, hi, trl_get hi]
  refine ⟨?_, fun i hi => by rw [trl_get hi]; exact hR _ (List.getElem_mem hi)⟩
  rcases hs with hs | ⟨b, off, cap, rfl, hr⟩
  · exact .inl hs
  · exact .inr ⟨b, off, cap, rfl, fun i hi => by
      show World.rangeAt _ _ _ (trc (trl R i))
      rw [← e i hi]; exact hr i hi⟩
theorem mem_trl {l : List Tr} {t : Tr} (h : t ∈ l) : ∃ i, i < l.length ∧ trl l i = t := by
  obtain ⟨i, hi, rfl⟩ := List.getElem_of_mem h
  exact ⟨i, hi, trl_get hi⟩

theorem newvar (wr : World) (z : Value) (E : TypeId) (cs : List Value) (hz : z.cells.size = cs.length) :
    ((wr.alloc (.cells z.cells E)).setCells wr.heap.size 0 cs).rangeAt wr.heap.size 0 cs ∧ KpB wr ((wr.alloc (.cells z.cells E)).setCells wr.heap.size 0 cs) [] ∧ (wr.alloc (.cells z.cells E)).there wr.heap.size 0 cs.length := by
  have hwb : WB (wr.alloc (.cells z.cells E)) wr.heap.size E cs.length := WB_new _ _ _ hz
  have hth := hwb.there (o := 0) (c := cs.length) (by omega)
  have hKa : KpB wr (wr.alloc (.cells z.cells E)) [] := KpB.alloc _ _ _
  have hKs : KpB (wr.alloc (.cells z.cells E)) ((wr.alloc (.cells z.cells E)).setCells wr.heap.size 0 cs) [wr.heap.size] := KpB.setCells (by simp)
  refine ⟨World.rangeAt_setCells_same _ _ _ _ hth, ?_, hth⟩
  refine ⟨hKs.os.trans hKa.os, hKs.tape.trans hKa.tape, hKs.output.trans hKa.output, Nat.le_trans hKa.size hKs.size, fun j hj hS => ?_⟩
  exact (hKs.block j (Nat.lt_of_lt_of_le hj hKa.size) (by simp; omega)).trans (hKa.block j hj (by simp))

theorem SlV.kpm {w w' : World} {gB gW : Nat} {FB FW : List UInt8 → Option Value} {KB KW : List (List UInt8)} {v : Value} {n sz : Nat} {f : Nat → List Value} (h : SlV w v n sz f) (hk : KpB w w' [gB, gW]) (hB : MapV w gB FB KB) (hW : MapV w gW FW KW) (hf : ∀ i, i < n → 0 < (f i).length) : SlV w' v n sz f := by
  rcases h with h | ⟨b, off, cap, rfl, hr⟩
  · exact .inl h
  · exact .inr ⟨b, off, cap, rfl, fun i hi => hk.range (hr i hi) (by simp [range_no_map hB (hr i hi) (hf i hi), range_no_map hW (hr i hi) (hf i hi)])⟩

theorem filter_snoc (p : List UInt8 → Bool) (l : List (List UInt8)) (x : List UInt8) : (l ++ [x]).filter p = if p x then l.filter p ++ [x] else l.filter p := by
  rw [List.filter_append]
  cases h : p x <;> simp [h]

/-- What 'stranded' leaves. -/
structure Stranded (ob gB gW : Nat) (F : List UInt8 → Option Value) (T : List UInt8 → List Tr) (G : List UInt8 → Option Int) (m n : Nat) (ids : Nat → List UInt8) (bv : Value) (w : World) (v bv' : Value) (w' : World) : Prop where
  trees : TreesV w' v (gath T ((idl ids n).filter (sel F G))).2.length (trl (gath T ((idl ids n).filter (sel F G))).2)
  nil : v = nilS ↔ (gath T ((idl ids n).filter (sel F G))).2 = []
  c0 : w'.cell? ⟨ob, 0, none⟩ = some (.map (some gB))
  c1 : w'.cell? ⟨ob, 1, none⟩ = some bv'
  c2 : w'.cell? ⟨ob, 2, none⟩ = some (.map (some gW))
  ids' : IdsV w' bv' ((idl ids n).filter (fun x => (without F (gath T ((idl ids n).filter (sel F G))).1 x).isSome)).length (lid ((idl ids n).filter (fun x => (without F (gath T ((idl ids n).filter (sel F G))).1 x).isSome)))
  nilB : NilAs bv' bv
  mapB : MapE w' gB (without F (gath T ((idl ids n).filter (sel F G))).1)
  mapW : MapI w' gW (decL G (gath T ((idl ids n).filter (sel F G))).2) (m + (gath T ((idl ids n).filter (sel F G))).2.length)
  kept : KpB w w' (gB :: gW :: ob :: bv.ownBlock.toList)

set_option maxHeartbeats 16000000 in
theorem stranded_any (ob gB gW : Nat) (F : List UInt8 → Option Value) (T : List UInt8 → List Tr) (G : List UInt8 → Option Int) (m n : Nat) (ids : Nat → List UInt8) (bv : Value) (w : World)
    (hn : n ≤ 4096) (hm : m ≤ 100000) (hc0 : w.cell? ⟨ob, 0, none⟩ = some (.map (some gB))) (hc1 : w.cell? ⟨ob, 1, none⟩ = some bv) (hf1 : w.frozen? ⟨ob, 1, none⟩ = false) (hc2 : w.cell? ⟨ob, 2, none⟩ = some (.map (some gW))) (hgg : gB ≠ gW)
    (hB : MapE w gB F) (hW : MapI w gW G m) (hids : ∀ i, i < n → (ids i).length = 20)
    (hbv : (bv = .slice none 0 0 ∧ n = 0) ∨ ∃ gs, gs ≠ ob ∧ bv = .slice (some ⟨gs, 0, none⟩) n n ∧ WB w gs 70 (n * 20) ∧ WRow w gs 0 n 20 (fun i => idc (ids i)))
    (hT : ∀ x, x.length = 20 → ∀ tv, F x = some tv → TreesV w tv (T x).length (trl (T x)) ∧ (T x).length ≤ 4096) :
    Calls Trym.prog 37 #[.pointer (some ⟨ob, 0, none⟩)] w fun e w' => ∃ v bv', e = .returned v ∧ Stranded ob gB gW F T G m n ids bv w v bv' w' := by
  obtain ⟨KB, hB⟩ := hB
  obtain ⟨KW, hW, hKW⟩ := hW
  have hobB : ob ≠ gB := map_no_cell hB hc0
  have hobW : ob ≠ gW := map_no_cell hW hc0
  have hobl : ob < w.heap.size := World.block_lt_of_cell? w _ hc0
  obtain ⟨ba, bc, hbe, hbo⟩ : ∃ ba bc, bv = .slice ba n bc ∧ ((ba = none ∧ n = 0 ∧ bc = 0) ∨ ∃ gs, gs ≠ ob ∧ ba = some ⟨gs, 0, none⟩ ∧ bc = n ∧ WB w gs 70 (n * 20) ∧ WRow w gs 0 n 20 (fun i => idc (ids i))) := by
    rcases hbv with ⟨rfl, rfl⟩ | ⟨gs, h1, rfl, h2, h3⟩
    · exact ⟨none, 0, rfl, .inl ⟨rfl, rfl, rfl⟩⟩
    · exact ⟨_, _, rfl, .inr ⟨gs, h1, rfl, rfl, h2, h3⟩⟩
  subst hbe
  clear hbv
  have HR := hide (And.intro hB (And.intro hW (And.intro hKW (And.intro hids (And.intro hbo (And.intro hT (And.intro hf1 hgg)))))))
  have HC := hide (And.intro hc0 (And.intro hc1 hc2))
  clear hB hW hKW hids hbo hT hf1 hgg hc0 hc2
  go_enter Trym.func37, Trym.ntmps37
  go_wp2
  clear hc1
  go_loopw [3, 21] (fun o i wr => ∃ k : Nat, k ≤ n ∧ i = .int .i64 k ∧ OwnIds wr w.heap.size 70 o ((idl ids k).filter (sel F G)) ∧ Below w.heap.size w wr) (fun _ i _ => n - (intOf i).toNat)
  case atStart => exact ⟨0, Nat.zero_le _, rfl, ⟨OwnW.nil _ _ _ _, fun x hx => by simp [idl] at hx⟩, Below.refl _ _⟩
  case round =>
    obtain ⟨k, hk, rfl, hown, hbel⟩ := hrel
    by_cases hlt : k < n
    · obtain ⟨_, h0, _⟩ | ⟨gs, hgs, rfl, hbc, hwb, hrow⟩ := HR.out.2.2.2.2.1
      · omega
      have hbc2 := hbc.symm
      clear hbc
      subst hbc2
      have hlx := HR.out.2.2.2.1 k hlt
      have hra0 := hrow k hlt
      have hgw : gs < w.heap.size := hwb.lt
      have hra := rangeAt_below hbel hgw hra0
      obtain ⟨z, hzs, hz⟩ := zero_of e70
      obtain ⟨hnr, hnk, hnt⟩ := newvar wr z 70 (idc (ids k)) (by rw [hzs, idc_length, hlx])
      have hraA : (wr.alloc (.cells z.cells 70)).rangeAt gs (0 + k * 20) (idc (ids k)) := World.rangeAt_alloc hra _
      have hraS := hnk.range hra (by simp)
      have hbel1 : Below w.heap.size w ((wr.alloc (.cells z.cells 70)).setCells wr.heap.size 0 (idc (ids k))) := hbel.trans (hnk.below hbel.size (by simp))
      have hown1 : OwnIds ((wr.alloc (.cells z.cells 70)).setCells wr.heap.size 0 (idc (ids k))) w.heap.size 70 u3 ((idl ids k).filter (sel F G)) := ⟨hown.1.kp hnk (by simp), hown.2⟩
      have HT := hide hnt
      have HO := hide (And.intro hown1 hbel1)
      clear hown hbel hbel1 hown1 hnt hwb hrow hra0 hnk
      go_upto_region 4 with fail
      refine wp_region_lexp (fun w' => w'.rangeAt gs (0 + k * 20) (idc (ids k))) hra ?_
      refine lex_index 68 70 _ _ gs 0 n n k 20 rfl rfl rfl rfl hlt Trym.underlying68 i70 ?_
      simp only [Act.put, List.setIfInBounds_toArray, List.set_cons_zero, List.set_cons_succ]
      refine lex_load 70 _ gs (0 + k * 20) (idc (ids k)) _ rfl rfl rfl (fun _ h => h) Trym.underlying70 rfl (by rw [i70, idc_length, hlx]) ?_
      simp only [Act.put, List.setIfInBounds_toArray, List.set_cons_zero, List.set_cons_succ]
      refine lex_alloc 70 z rfl rfl rfl (hz _) hraA ?_
      simp only [Act.put, List.setIfInBounds_toArray, List.set_cons_zero, List.set_cons_succ]
      refine lex_store 70 _ _ wr.heap.size 0 (idc (ids k)).toArray rfl rfl rfl rfl rfl (by rw [List.size_toArray]; exact HT.out) (by rw [i70, List.size_toArray, idc_length, hlx]) (all_oneCell_toArray (idc_one _)) hraS ?_
      simp only [Act.put, List.setIfInBounds_toArray, List.set_cons_zero, List.set_cons_succ]
      refine lex_nil (NoPanic.normal ?_)
      clear hra hraA hraS HT hz hzs
      generalize hW1 : (wr.alloc (.cells z.cells 70)).setCells wr.heap.size 0 (idc (ids k)) = W1 at *
      clear hW1
      generalize wr.heap.size = pb at *
      have hcW0 : W1.cell? ⟨ob, 0, none⟩ = some (.map (some gB)) := (HO.out.2.cell (p := ⟨ob, 0, none⟩) hobl).trans HC.out.1
      have hcW2 : W1.cell? ⟨ob, 2, none⟩ = some (.map (some gW)) := (HO.out.2.cell (p := ⟨ob, 2, none⟩) hobl).trans HC.out.2.2
      have hBW : MapV W1.drew gB F KB := HR.out.1.below HO.out.2.drew HR.out.1.lt
      have hWW : MapV W1.drew.drew gW (intF G) KW := HR.out.2.1.below HO.out.2.drew.drew HR.out.2.1.lt
      have hlB := hBW.look_ok (T := 80) (z := nilS) Trym.underlying80 zero84 hlx
      have hlW := hWW.look (T := 81) Trym.underlying81 zero3 hlx
      rw [intF_get] at hlW
      have HL := hide (And.intro hlB hlW)
      clear hlB hlW hBW hWW
      go_upto_region 5 with fail
      refine wp_region_lex (fun w' => w'.cell? ⟨ob, 0, none⟩ = some (.map (some gB)) ∧ w'.rangeAt pb 0 (idc (ids k))) (by kernel_rfl) (by kernel_rfl) ⟨hcW0, hnr⟩ ?_
      refine lex_mv (.pointer (some ⟨ob, 0, none⟩)) _ rfl rfl rfl ?_
      simp only [Act.put, List.setIfInBounds_toArray, List.set_cons_zero, List.set_cons_succ]
      refine lex_nilc _ ⟨ob, 0, none⟩ rfl rfl rfl ?_
      simp only [Act.put, List.setIfInBounds_toArray, List.set_cons_zero, List.set_cons_succ]
      refine lex_field 83 _ 0 ob 0 0 _ _ rfl rfl rfl Trym.underlying83 rfl i80 rfl ?_
      simp only [Act.put, List.setIfInBounds_toArray, List.set_cons_zero, List.set_cons_succ]
      refine lex_load1 80 _ ob 0 (.map (some gB)) rfl rfl rfl (fun _ h => h.1) (fun w => Trym.isAgg80 w) ?_
      simp only [Act.put, List.setIfInBounds_toArray, List.set_cons_zero, List.set_cons_succ]
      refine lex_load 70 _ pb 0 (idc (ids k)) _ rfl rfl rfl (fun _ h => h.2) Trym.underlying70 rfl (by rw [i70, idc_length, hlx]) ?_
      simp only [Act.put, List.setIfInBounds_toArray, List.set_cons_zero, List.set_cons_succ]
      refine lex_looks 80 _ _ true (.map (some gB)) (.agg (idc (ids k)).toArray) (.tuple #[(F (ids k)).getD nilS, .bool (F (ids k)).isSome]) (by kernel_rfl) rfl rfl rfl rfl HL.out.1 ⟨hcW0, hnr⟩ ?_
      simp only [Act.put, List.setIfInBounds_toArray, List.set_cons_zero, List.set_cons_succ]
      refine lex_mv (.tuple #[(F (ids k)).getD nilS, .bool (F (ids k)).isSome]) _ rfl rfl rfl ?_
      simp only [Act.put, List.setIfInBounds_toArray, List.set_cons_zero, List.set_cons_succ]
      refine lex_extract _ 0 #[(F (ids k)).getD nilS, .bool (F (ids k)).isSome] ((F (ids k)).getD nilS) rfl rfl rfl rfl ?_
      simp only [Act.put, List.setIfInBounds_toArray, List.set_cons_zero, List.set_cons_succ]
      refine lex_extract _ 1 #[(F (ids k)).getD nilS, .bool (F (ids k)).isSome] (.bool (F (ids k)).isSome) rfl rfl rfl rfl ?_
      simp only [Act.put, List.setIfInBounds_toArray, List.set_cons_zero, List.set_cons_succ]
      refine lex_as ((F (ids k)).getD nilS) _ rfl rfl rfl ?_
      simp only [Act.put, List.setIfInBounds_toArray, List.set_cons_zero, List.set_cons_succ]
      refine lex_as (.bool (F (ids k)).isSome) _ rfl rfl rfl ?_
      simp only [Act.put, List.setIfInBounds_toArray, List.set_cons_zero, List.set_cons_succ]
      refine lex_nil (NoPanic.normal ?_)
      clear hcW0
      have hstep : Hid ((idl ids (k + 1)).filter (sel F G) = if sel F G (ids k) then (idl ids k).filter (sel F G) ++ [ids k] else (idl ids k).filter (sel F G)) := hide (by rw [idl_succ, filter_snoc])
      cases hq : (F (ids k)).isSome with
      | false =>
        have hsf : Hid (sel F G (ids k) = false) := hide (by simp [sel, hq])
        clear hq
        go_upto_region 6 with fail
        refine wp_region_lex (fun w' => True) (by kernel_rfl) (by kernel_rfl) trivial ?_
        refine lex_mv (.bool false) _ rfl rfl rfl ?_
        simp only [Act.put, List.setIfInBounds_toArray, List.set_cons_zero, List.set_cons_succ]
        refine lex_mv (.bool false) _ rfl rfl rfl ?_
        simp only [Act.put, List.setIfInBounds_toArray, List.set_cons_zero, List.set_cons_succ]
        refine lex_skip (by kernel_rfl) ?_
        simp only [Act.put, List.setIfInBounds_toArray, List.set_cons_zero, List.set_cons_succ]
        refine lex_skip (by kernel_rfl) ?_
        simp only [Act.put, List.setIfInBounds_toArray, List.set_cons_zero, List.set_cons_succ]
        refine lex_skip (by kernel_rfl) ?_
        simp only [Act.put, List.setIfInBounds_toArray, List.set_cons_zero, List.set_cons_succ]
        refine lex_skip (by kernel_rfl) ?_
        simp only [Act.put, List.setIfInBounds_toArray, List.set_cons_zero, List.set_cons_succ]
        refine lex_skip (by kernel_rfl) ?_
        simp only [Act.put, List.setIfInBounds_toArray, List.set_cons_zero, List.set_cons_succ]
        refine lex_skip (by kernel_rfl) ?_
        simp only [Act.put, List.setIfInBounds_toArray, List.set_cons_zero, List.set_cons_succ]
        refine lex_skip (by kernel_rfl) ?_
        simp only [Act.put, List.setIfInBounds_toArray, List.set_cons_zero, List.set_cons_succ]
        refine lex_pickF _ _ _ (.bool false) rfl rfl rfl rfl ?_
        simp only [Act.put, List.setIfInBounds_toArray, List.set_cons_zero, List.set_cons_succ]
        refine lex_nil (NoPanic.normal ?_)
        clear HL hcW2 hnr
        go_wp2
        go_roundw
        case rel => exact ⟨k + 1, by omega, by go_num, by rw [hstep.out, hsf.out]; exact HO.out.1, HO.out.2.drew.drew⟩
        case measure => simp [intOf]; omega
      | true =>
        go_upto_region 6 with fail
        refine wp_region_lex (fun w' => w'.cell? ⟨ob, 2, none⟩ = some (.map (some gW)) ∧ w'.rangeAt pb 0 (idc (ids k))) (by kernel_rfl) (by kernel_rfl) ⟨hcW2, hnr⟩ ?_
        refine lex_mv (.bool true) _ rfl rfl rfl ?_
        simp only [Act.put, List.setIfInBounds_toArray, List.set_cons_zero, List.set_cons_succ]
        refine lex_mv (.bool true) _ rfl rfl rfl ?_
        simp only [Act.put, List.setIfInBounds_toArray, List.set_cons_zero, List.set_cons_succ]
        refine lex_mv (.pointer (some ⟨ob, 0, none⟩)) _ (by kernel_rfl) rfl rfl ?_
        simp only [Act.put, List.setIfInBounds_toArray, List.set_cons_zero, List.set_cons_succ]
        refine lex_nilc _ ⟨ob, 0, none⟩ (by kernel_rfl) rfl rfl ?_
        simp only [Act.put, List.setIfInBounds_toArray, List.set_cons_zero, List.set_cons_succ]
        refine lex_field 83 _ 2 ob 0 2 _ _ (by kernel_rfl) rfl rfl Trym.underlying83 rfl i81 rfl ?_
        simp only [Act.put, List.setIfInBounds_toArray, List.set_cons_zero, List.set_cons_succ]
        refine lex_load1 81 _ ob 2 (.map (some gW)) (by kernel_rfl) rfl rfl (fun _ h => h.1) (fun w => Trym.isAgg81 w) ?_
        simp only [Act.put, List.setIfInBounds_toArray, List.set_cons_zero, List.set_cons_succ]
        refine lex_load 70 _ pb 0 (idc (ids k)) _ (by kernel_rfl) rfl rfl (fun _ h => h.2) Trym.underlying70 rfl (by rw [i70, idc_length, hlx]) ?_
        simp only [Act.put, List.setIfInBounds_toArray, List.set_cons_zero, List.set_cons_succ]
        refine lex_looks 81 _ _ false (.map (some gW)) (.agg (idc (ids k)).toArray) (.int .i64 ((G (ids k)).getD 0)) (by kernel_rfl) (by kernel_rfl) rfl rfl rfl HL.out.2 ⟨hcW2, hnr⟩ ?_
        simp only [Act.put, List.setIfInBounds_toArray, List.set_cons_zero, List.set_cons_succ]
        refine lex_eqi 3 3 _ _ ((G (ids k)).getD 0) 0 (by kernel_rfl) rfl rfl rfl Trym.underlying3 ?_
        simp only [Act.put, List.setIfInBounds_toArray, List.set_cons_zero, List.set_cons_succ]
        refine lex_pickT _ _ _ (.bool ((G (ids k)).getD 0 == 0)) rfl rfl rfl rfl ?_
        simp only [Act.put, List.setIfInBounds_toArray, List.set_cons_zero, List.set_cons_succ]
        refine lex_nil (NoPanic.normal ?_)
        clear HL hcW2
        cases hq2 : ((G (ids k)).getD 0 == 0) with
        | false =>
          have hsf : Hid (sel F G (ids k) = false) := hide (by simp only [sel, hq2, Bool.and_false])
          clear hq hq2 hnr
          go_wp2
          go_roundw
          case rel => exact ⟨k + 1, by omega, by go_num, by rw [hstep.out, hsf.out]; exact HO.out.1, HO.out.2.drew.drew⟩
          case measure => simp [intOf]; omega
        | true =>
          have hsf : Hid (sel F G (ids k) = true) := hide (by simp only [sel, hq, hq2, Bool.and_self])
          clear hq hq2
          go_upto_region 7 with fail
          have hflen : ((idl ids k).filter (sel F G)).length ≤ k := Nat.le_trans (List.length_filter_le _ _) (by simp [idl])
          have hnr2 : W1.drew.drew.rangeAt pb 0 (idc (ids k)) := hnr
          obtain ⟨v2, w2, hap, hown2, _, _, hgr2, hb2⟩ := append_id (w := W1.drew.drew) (B := w.heap.size) Trym.underlying68 e70 68 HO.out.1 hlx (by omega) HO.out.2.size
          have HW2 := hide (And.intro hown2 (HO.out.2.drew.drew.trans hb2))
          clear hown2 hgr2 hb2
          refine wp_region_lexp (fun w' => True) trivial ?_
          refine lex_mv u3 _ rfl rfl rfl ?_
          simp only [Act.put, List.setIfInBounds_toArray, List.set_cons_zero, List.set_cons_succ]
          refine lex_loadx 70 _ pb 0 (idc (ids k)) _ rfl rfl rfl rfl hnr2 Trym.underlying70 rfl (by rw [i70, idc_length, hlx]) trivial ?_
          simp only [Act.put, List.setIfInBounds_toArray, List.set_cons_zero, List.set_cons_succ]
          refine lex_bslice 68 1 _ #[(0, .agg (idc (ids k)).toArray)] _ _ rfl rfl rfl rfl (one_slice Trym.underlying68 e70 (by omega) (by omega) _ (by rw [idc_length, hlx]) _) trivial ?_
          simp only [Act.put, List.setIfInBounds_toArray, List.set_cons_zero, List.set_cons_succ]
          refine lex_append 68 _ _ u3 (.slice (some ⟨W1.drew.drew.heap.size, 0, none⟩) 1 1) v2 w2 rfl rfl rfl rfl rfl hap trivial ?_
          simp only [Act.put, List.setIfInBounds_toArray, List.set_cons_zero, List.set_cons_succ]
          refine lex_as v2 _ rfl rfl rfl ?_
          simp only [Act.put, List.setIfInBounds_toArray, List.set_cons_zero, List.set_cons_succ]
          refine lex_nil (NoPanic.normal ?_)
          clear hap hnr hnr2
          go_wp2
          go_roundw
          case rel => exact ⟨k + 1, by omega, by go_num, by rw [hstep.out, hsf.out]; exact HW2.out.1, HW2.out.2⟩
          case measure => simp [intOf]; omega
    · have hkn : n = k := by omega
      subst hkn
      obtain ⟨a3, c3, hu3, _⟩ := hown.1.form
      rw [List.length_map] at hu3
      subst hu3
      have HO := hide (And.intro hown hbel)
      clear hown hbel
      go_wp2
      generalize hL1 : (idl ids n).filter (sel F G) = L1 at *
      have HL1 : Hid ((∀ x ∈ L1, sel F G x = true ∧ x.length = 20) ∧ L1.length ≤ n) := hide (by
        subst hL1
        refine ⟨fun x hx => ?_, Nat.le_trans (List.length_filter_le _ _) (by simp [idl])⟩
        obtain ⟨h1, h2⟩ := List.mem_filter.1 hx
        simp only [idl, List.mem_map, List.mem_range] at h1
        obtain ⟨i, hi, rfl⟩ := h1
        exact ⟨h2, HR.out.2.2.2.1 i hi⟩)
      have HLE := hide hL1
      clear hL1 hlt hk
      have hL1n : L1.length ≤ 4096 := by have := HL1.out.2; omega
      generalize wr = W2 at *
      have hc0 : W2.cell? ⟨ob, 0, none⟩ = some (.map (some gB)) := (HO.out.2.cell (p := ⟨ob, 0, none⟩) hobl).trans HC.out.1
      have hc2 : W2.cell? ⟨ob, 2, none⟩ = some (.map (some gW)) := (HO.out.2.cell (p := ⟨ob, 2, none⟩) hobl).trans HC.out.2.2
      have hB2 : MapV W2 gB F KB := HR.out.1.below HO.out.2 HR.out.1.lt
      have hW2 : MapV W2 gW (intF G) KW := HR.out.2.1.below HO.out.2 HR.out.2.1.lt
      have hT2 : ∀ x, x.length = 20 → ∀ tv, F x = some tv → TreesV W2 tv (T x).length (trl (T x)) ∧ (T x).length ≤ 4096 := fun x hx tv htv => ⟨(HR.out.2.2.2.2.2.1 x hx tv htv).1.below HO.out.2 (Nat.le_refl _), (HR.out.2.2.2.2.2.1 x hx tv htv).2⟩
      have HC2 := hide (And.intro hc0 hc2)
      have HM2 := hide (And.intro hB2 (And.intro hW2 hT2))
      clear hc0 hc2 hB2 hW2 hT2
      go_loopw [8, 51] (fun o i wr => ∃ k : Nat, k ≤ L1.length ∧ i = .int .i64 k ∧ OwnW wr W2.heap.size 91 43 o ((gath T (L1.take k)).2.map trc) ∧ (o = nilS ↔ (gath T (L1.take k)).2 = []) ∧ MapE wr gB (without F (gath T (L1.take k)).1) ∧ MapI wr gW (decL G (gath T (L1.take k)).2) (m + (gath T (L1.take k)).2.length) ∧ (gath T (L1.take k)).2.length ≤ k * 4096 ∧ KpB W2 wr [gB, gW]) (fun _ i _ => L1.length - (intOf i).toNat)
      case atStart =>
        refine ⟨0, Nat.zero_le _, rfl, OwnW.nil _ _ _ _, by simp [nilS, gath], ?_, ?_, by simp [gath], KpB.refl _ _⟩
        · rw [show (gath T (L1.take 0)).1 = [] from rfl, without_nil]
          exact ⟨KB, HM2.out.1⟩
        · exact ⟨KW, HM2.out.2.1, by rw [show (gath T (L1.take 0)).2 = [] from rfl]; exact HR.out.2.2.1⟩
      case round =>
        obtain ⟨k, hk, rfl, hown, hnil, hmB, hmW, hlen, hkp⟩ := hrel
        by_cases hlt : k < L1.length
        · have hnext : Hid (gath T (L1.take (k + 1)) = gstep T (gath T (L1.take k)) (lid L1 k)) := hide (by rw [List.take_succ_eq_append_getElem hlt, gath_snoc, lid_get hlt])
          obtain ⟨hselx, hlx⟩ := HL1.out.1 (lid L1 k) (lid_mem hlt)
          generalize hacc : gath T (L1.take k) = acc at *
          clear hacc
          have hview := HO.out.1.view.1.open
          obtain ⟨a3', c3', e3, hro⟩ := hview
          obtain ⟨b3, off3, ea3, hrow3⟩ := hro k hlt
          obtain ⟨rfl, -, rfl⟩ := (Value.slice.injEq _ _ _ _ _ _).mp e3
          subst ea3
          have hra0 : W2.rangeAt b3 (off3 + k * 20) (idc (lid L1 k)) := hrow3 k hlt
          have hb3n : b3 ∉ [gB, gW] := by
            have hl : 0 < (idc (lid L1 k)).length := by rw [idc_length, hlx]; omega
            simp [range_no_map HM2.out.1 hra0 hl, range_no_map HM2.out.2.1 hra0 hl]
          have hra := hkp.range hra0 hb3n
          generalize lid L1 k = x at *
          obtain ⟨KB1, hmB⟩ := hmB
          obtain ⟨KW1, hmW, hKW1⟩ := hmW
          obtain ⟨z, hzs, hz⟩ := zero_of e70
          obtain ⟨hnr, hnk, hnt⟩ := newvar wr z 70 (idc x) (by rw [hzs, idc_length, hlx])
          have hraA : (wr.alloc (.cells z.cells 70)).rangeAt b3 (off3 + k * 20) (idc x) := World.rangeAt_alloc hra _
          have hraS := hnk.range hra (by simp)
          have hmB1 := hnk.map hmB (by simp)
          have hmW1 := hnk.map hmW (by simp)
          have hkp1 := hkp.then_new hnk
          have hown1 := hown.kp hnk (by simp)
          have HT := hide hnt
          have HV := hide (And.intro hmB1 (And.intro hmW1 (And.intro hKW1 (And.intro hkp1 (And.intro hown1 (And.intro hnil hlen))))))
          clear hmB hmW hKW1 hkp hown hmB1 hmW1 hkp1 hown1 hnt hnk hnil hlen hra0 hrow3 hro e3
          go_upto_region 12 with fail
          refine wp_region_lexp (fun w' => w'.rangeAt b3 (off3 + k * 20) (idc x)) hra ?_
          refine lex_index 68 70 _ _ b3 off3 L1.length c3 k 20 rfl rfl rfl rfl hlt Trym.underlying68 i70 ?_
          simp only [Act.put, List.setIfInBounds_toArray, List.set_cons_zero, List.set_cons_succ]
          refine lex_load 70 _ b3 (off3 + k * 20) (idc x) _ rfl rfl rfl (fun _ h => h) Trym.underlying70 rfl (by rw [i70, idc_length, hlx]) ?_
          simp only [Act.put, List.setIfInBounds_toArray, List.set_cons_zero, List.set_cons_succ]
          refine lex_alloc 70 z rfl rfl rfl (hz _) hraA ?_
          simp only [Act.put, List.setIfInBounds_toArray, List.set_cons_zero, List.set_cons_succ]
          refine lex_store 70 _ _ wr.heap.size 0 (idc x).toArray rfl rfl rfl rfl rfl (by rw [List.size_toArray]; exact HT.out) (by rw [i70, List.size_toArray, idc_length, hlx]) (all_oneCell_toArray (idc_one _)) hraS ?_
          simp only [Act.put, List.setIfInBounds_toArray, List.set_cons_zero, List.set_cons_succ]
          refine lex_nil (NoPanic.normal ?_)
          clear hra hraA hraS HT hz hzs
          generalize hW1 : (wr.alloc (.cells z.cells 70)).setCells wr.heap.size 0 (idc x) = W1 at *
          clear hW1
          generalize wr.heap.size = pb at *
          obtain ⟨tv, htv⟩ : ∃ tv, F x = some tv := by
            have : (F x).isSome = true := by
              have h9 := hselx
              simp only [sel, Bool.and_eq_true] at h9
              exact h9.1
            exact Option.isSome_iff_exists.1 this
          obtain ⟨l, hl1, hl2, hTx, hll⟩ : ∃ l : List Tr, gstep T acc x = (if x ∈ acc.1 then acc.1 else acc.1 ++ [x], acc.2 ++ l) ∧ updF (without F acc.1) x none = without F (if x ∈ acc.1 then acc.1 else acc.1 ++ [x]) ∧ TreesV W1 ((without F acc.1 x).getD nilS) l.length (trl l) ∧ l.length ≤ 4096 := by
            by_cases hx : x ∈ acc.1
            · refine ⟨[], ?_, ?_, ?_, by simp⟩
              · simp [gstep, hx]
              · rw [if_pos hx]; exact without_old hx
              · rw [show without F acc.1 x = none from if_pos hx]
                exact ⟨.inl ⟨rfl, rfl⟩, fun i hi => absurd hi (by simp)⟩
            · refine ⟨T x, ?_, ?_, ?_, (HM2.out.2.2 x hlx tv htv).2⟩
              · simp [gstep, hx]
              · rw [if_neg hx]; exact without_new F acc.1 x
              · rw [show without F acc.1 x = some tv from (if_neg hx).trans htv]
                have h9 := (HM2.out.2.2 x hlx tv htv).1
                exact ⟨h9.1.kpm HV.out.2.2.2.1 HM2.out.1 HM2.out.2.1 (fun i hi => by rw [trc_length (h9.2 i hi)]; omega), h9.2⟩
          have hcW0 : W1.cell? ⟨ob, 0, none⟩ = some (.map (some gB)) := HV.out.2.2.2.1.cell HC2.out.1 (by simp [hobB, hobW])
          have hcW2 : W1.cell? ⟨ob, 2, none⟩ = some (.map (some gW)) := HV.out.2.2.2.1.cell HC2.out.2 (by simp [hobB, hobW])
          have hgg := HR.out.2.2.2.2.2.2.2
          have HX := hide (And.intro hl1 (And.intro hl2 (And.intro hTx (And.intro htv hselx))))
          clear hl1 hl2 htv hselx
          generalize hval : (without F acc.1 x).getD nilS = tvx at *
          have hTform := hTx.1.form
          obtain ⟨at', ct', hat'⟩ := hTform
          subst hat'
          go_upto_region 13 with fail
          refine wp_region_lexp (fun w' => True) trivial ?_
          refine lex_mv u8 _ rfl rfl rfl ?_
          simp only [Act.put, List.setIfInBounds_toArray, List.set_cons_zero, List.set_cons_succ]
          refine lex_mv (.pointer (some ⟨ob, 0, none⟩)) _ rfl rfl rfl ?_
          simp only [Act.put, List.setIfInBounds_toArray, List.set_cons_zero, List.set_cons_succ]
          refine lex_loadx 70 _ pb 0 (idc x) _ rfl rfl rfl rfl hnr Trym.underlying70 rfl (by rw [i70, idc_length, hlx]) trivial ?_
          simp only [Act.put, List.setIfInBounds_toArray, List.set_cons_zero, List.set_cons_succ]
          refine lex_solek rfl rfl (fun K hK => ?_)
          have hlenV := HV.out.2.2.2.2.2.2
          have htake := take_any ob gB gW (without F acc.1) KB1 (decL G acc.2) (m + acc.2.length) x l.length (trl l) W1 hlx hcW0 hcW2 hgg HV.out.1 ⟨KW1, HV.out.2.1, HV.out.2.2.1⟩ (by
            have : k * 4096 ≤ 4096 * 4096 := Nat.mul_le_mul_right _ (by omega)
            omega) (by rw [hval]; exact hTx)
          rw [hval] at htake
          have HTK := hide htake
          clear htake hval
          go_simp
          refine HTK.out.mono ?_
          rintro e w1 ⟨rfl, hB1, hW1, hK1⟩
          refine hK.out _ _ trivial ?_
          clear hK HTK
          try simp only [Act.put, List.setIfInBounds_toArray, List.set_cons_zero, List.set_cons_succ]
          have hTx1 : TreesV w1 (.slice at' l.length ct') l.length (trl l) := ⟨hTx.1.kpm hK1 HV.out.1 HV.out.2.1 (fun i hi => by rw [trc_length (hTx.2 i hi)]; omega), hTx.2⟩
          have hgBl : gB < W2.heap.size := HM2.out.1.lt
          have hgWl : gW < W2.heap.size := HM2.out.2.1.lt
          have hown1 : OwnW w1 W2.heap.size 91 43 u8 (acc.2.map trc) := HV.out.2.2.2.2.1.kp hK1 (fun y hy => by
            simp at hy
            rcases hy with rfl | rfl
            · exact hgBl
            · exact hgWl)
          have hkp1 : KpB W2 w1 [gB, gW] := HV.out.2.2.2.1.trans hK1
          obtain ⟨v2, w2, hap, hown2, hgr2, hnil2, _⟩ := append_any Trym.underlying84 e91 (by omega) (by omega) 84 hown1 hTx1.1 (fun i hi => trc_length (hTx1.2 i hi)) (fun i hi => trc_one _) (by
            have : k * 4096 ≤ 4096 * 4096 := Nat.mul_le_mul_right _ (by omega)
            simp
            omega) hkp1.size
          have hrow : ∀ g, u8.ownBlock = some g → W2.heap.size ≤ g := fun g hg => (hown1.block g hg).1
          have hkp2 : KpB W2 w2 [gB, gW] := hkp1.then_grown hgr2 hrow
          obtain ⟨KW2, hW1, hKW2⟩ := hW1
          have hB2 : MapV w2 gB (updF (without F acc.1) x none) (delK KB1 x) := hB1.keep (hgr2.block gB hB1.lt (fun e => by have := hrow gB e.symm; omega))
          have hW2' : MapV w2 gW (intF (decAll (decL G acc.2) (trl l) l.length)) KW2 := hW1.keep (hgr2.block gW hW1.lt (fun e => by have := hrow gW e.symm; omega))
          rw [range_trl, ← List.map_append] at hown2
          rw [decAll_eq, ← decL_append] at hW2'
          rw [HX.out.2.1] at hB2
          have HN : Hid (OwnW w2 W2.heap.size 91 43 v2 ((gath T (L1.take (k + 1))).2.map trc) ∧ (v2 = nilS ↔ (gath T (L1.take (k + 1))).2 = []) ∧ MapE w2 gB (without F (gath T (L1.take (k + 1))).1) ∧ MapI w2 gW (decL G (gath T (L1.take (k + 1))).2) (m + (gath T (L1.take (k + 1))).2.length) ∧ (gath T (L1.take (k + 1))).2.length ≤ (k + 1) * 4096 ∧ KpB W2 w2 [gB, gW]) := hide (by
            rw [hnext.out, HX.out.1]
            refine ⟨hown2, ?_, ⟨_, hB2⟩, ⟨KW2, hW2', by simp; omega⟩, by
              have e1 : (k + 1) * 4096 = k * 4096 + 4096 := Nat.succ_mul k 4096
              simp
              omega, hkp2⟩
            have h9 := HV.out.2.2.2.2.2.1
            show v2 = .slice none 0 0 ↔ _
            rw [hnil2]
            constructor
            · rintro ⟨h1, h2⟩
              have h3 := h9.1 h1
              simp only [h3, List.nil_append]
              exact List.eq_nil_of_length_eq_zero h2
            · intro h1
              obtain ⟨h2, h3⟩ := List.append_eq_nil_iff.1 h1
              exact ⟨h9.2 h2, by rw [h3]; rfl⟩)
          have HAP := hide hap
          clear hown2 hgr2 hnil2 hap hB2 hW2' hkp2 hrow hkp1 hown1 hTx1 hB1 hW1 hK1 HV hTx hnext hcW0 hcW2 hnr HX hKW2 hlenV
          refine lex_append 84 _ _ u8 (.slice at' l.length ct') v2 w2 rfl rfl rfl rfl rfl HAP.out trivial ?_
          simp only [Act.put, List.setIfInBounds_toArray, List.set_cons_zero, List.set_cons_succ]
          refine lex_as v2 _ rfl rfl rfl ?_
          simp only [Act.put, List.setIfInBounds_toArray, List.set_cons_zero, List.set_cons_succ]
          refine lex_nil (NoPanic.normal ?_)
          clear HAP
          go_wp2
          go_roundw
          case rel => exact ⟨k + 1, by omega, by go_num, HN.out.1, HN.out.2.1, HN.out.2.2.1, HN.out.2.2.2.1, HN.out.2.2.2.2.1, HN.out.2.2.2.2.2⟩
          case measure => simp [intOf]; omega
        · have hkn : L1.length = k := by omega
          subst hkn
          rw [List.take_length] at hown hnil hmB hmW hlen
          have hc1r : wr.cell? ⟨ob, 1, none⟩ = some (.slice ba n bc) := hkp.cell ((HO.out.2.cell (p := ⟨ob, 1, none⟩) hobl).trans HC.out.2.1) (by simp [hobB, hobW])
          have HX := hide (And.intro hown (And.intro hnil (And.intro hmB (And.intro hmW hkp))))
          clear hown hnil hmB hmW hkp hlen
          go_wp2
          clear hc1r
          generalize wr = W3 at *
          generalize hFd : without F (gath T L1).1 = F3 at *
          have HFD := hide hFd
          clear hFd
          have hpl : Hid (∀ k, (idl ids (k + 1)).filter (fun x => (F3 x).isSome) = if (F3 (ids k)).isSome then (idl ids k).filter (fun x => (F3 x).isSome) ++ [ids k] else (idl ids k).filter (fun x => (F3 x).isSome)) := hide (fun k => by rw [idl_succ, filter_snoc])
          have hrows3 : ∀ gs, ba = some ⟨gs, 0, none⟩ → bc = n ∧ gs ≠ ob ∧ gs ≠ gB ∧ gs ≠ gW ∧ gs < W3.heap.size ∧ WB W3 gs 70 (n * 20) ∧ ∀ i, i < n → W3.rangeAt gs (0 + i * 20) (idc (ids i)) := fun gs hgs => by
            rcases HR.out.2.2.2.2.1 with ⟨h1, _⟩ | ⟨gs', h1, h2, h3, h4, h5⟩
            · rw [h1] at hgs; cases hgs
            · rw [h2] at hgs
              have e : gs' = gs := by simpa using hgs
              subst e
              have n1 : gs' ≠ gB := h4.ne_map HR.out.1
              have n2 : gs' ≠ gW := h4.ne_map HR.out.2.1
              have h4' : WB W2 gs' 70 (n * 20) := h4.below HO.out.2 h4.lt
              have hblk := HX.out.2.2.2.2.block gs' h4'.lt (by simp [n1, n2])
              refine ⟨h3, h1, n1, n2, Nat.lt_of_lt_of_le h4'.lt HX.out.2.2.2.2.size, ?_, fun i hi => ?_⟩
              · obtain ⟨Fx, hFx⟩ := h4'
                exact ⟨Fx, hFx.of_block hblk⟩
              · exact HX.out.2.2.2.2.range (rangeAt_below HO.out.2 h4.lt (h5 i hi)) (by simp [n1, n2])
          have HR3 := hide hrows3
          clear hrows3
          have hc03 : W3.cell? ⟨ob, 0, none⟩ = some (.map (some gB)) := HX.out.2.2.2.2.cell HC2.out.1 (by simp [hobB, hobW])
          have HC3 := hide hc03
          clear hc03
          go_loopw [11, 71] (fun o i wr => ∃ k : Nat, k ≤ n ∧ i = .int .i64 k ∧ o = .slice ba ((idl ids k).filter (fun x => (F3 x).isSome)).length bc ∧ (∀ gs, ba = some ⟨gs, 0, none⟩ → WB wr gs 70 (n * 20) ∧ WRow wr gs 0 ((idl ids k).filter (fun x => (F3 x).isSome)).length 20 (fun i => idc (lid ((idl ids k).filter (fun x => (F3 x).isSome)) i)) ∧ ∀ i, k ≤ i → i < n → wr.rangeAt gs (0 + i * 20) (idc (ids i))) ∧ KpB W3 wr (Value.slice ba n bc).ownBlock.toList) (fun _ i _ => n - (intOf i).toNat)
          case atStart => exact ⟨0, Nat.zero_le _, rfl, rfl, fun gs hgs => ⟨(HR3.out gs hgs).2.2.2.2.2.1, fun i hi => absurd hi (by simp [idl]), fun i _ hi => (HR3.out gs hgs).2.2.2.2.2.2 i hi⟩, KpB.refl _ _⟩
          case round =>
            obtain ⟨k, hk, rfl, hleft, hrows, hkp⟩ := hrel
            subst hleft
            have hflen : ((idl ids k).filter (fun x => (F3 x).isSome)).length ≤ k := Nat.le_trans (List.length_filter_le _ _) (by simp [idl])
            have hfl20 : ∀ x ∈ (idl ids k).filter (fun x => (F3 x).isSome), x.length = 20 := fun x hx => by
              have h1 := (List.mem_filter.1 hx).1
              simp only [idl, List.mem_map, List.mem_range] at h1
              obtain ⟨i, hi, rfl⟩ := h1
              exact HR.out.2.2.2.1 i (by omega)
            by_cases hlt : k < n
            · obtain ⟨_, h0, _⟩ | ⟨gs, hgs, hbae, hbc, _, _⟩ := HR.out.2.2.2.2.1
              · omega
              subst hbae
              have hbc2 := hbc.symm
              clear hbc
              subst hbc2
              obtain ⟨_, _, n1, n2, hgsl, _, _⟩ := HR3.out gs rfl
              obtain ⟨hwb, hwrow, hsuf⟩ := hrows gs rfl
              have hlx := HR.out.2.2.2.1 k hlt
              have hra := hsuf k (Nat.le_refl _) hlt
              have hpk := hpl.out k
              generalize hfk : (idl ids k).filter (fun x => (F3 x).isSome) = fk at *
              clear hfk
              obtain ⟨z, hzs, hz⟩ := zero_of e70
              obtain ⟨hnr, hnk, hnt⟩ := newvar wr z 70 (idc (ids k)) (by rw [hzs, idc_length, hlx])
              have hraA : (wr.alloc (.cells z.cells 70)).rangeAt gs (0 + k * 20) (idc (ids k)) := World.rangeAt_alloc hra _
              have hraS := hnk.range hra (by simp)
              have hgswr : gs < wr.heap.size := hwb.lt
              have hwb1 : WB ((wr.alloc (.cells z.cells 70)).setCells wr.heap.size 0 (idc (ids k))) gs 70 (n * 20) := by
                obtain ⟨Fx, hFx⟩ := hwb
                exact ⟨Fx, hFx.of_block (hnk.block gs hgswr (by simp))⟩
              have hwrow1 : WRow ((wr.alloc (.cells z.cells 70)).setCells wr.heap.size 0 (idc (ids k))) gs 0 fk.length 20 (fun i => idc (lid fk i)) := fun i hi => hnk.range (hwrow i hi) (by simp)
              have hsuf1 : ∀ i, k ≤ i → i < n → ((wr.alloc (.cells z.cells 70)).setCells wr.heap.size 0 (idc (ids k))).rangeAt gs (0 + i * 20) (idc (ids i)) := fun i h1 h2 => hnk.range (hsuf i h1 h2) (by simp)
              have hkp1 := hkp.then_new hnk
              have hpbg : wr.heap.size ≠ gs := by omega
              have HT := hide hnt
              have HV := hide (And.intro hwb1 (And.intro hwrow1 (And.intro hsuf1 (And.intro hkp1 hpbg))))
              have HPK := hide hpk
              clear hwb hwrow hsuf hkp hwb1 hwrow1 hsuf1 hkp1 hnt hnk hrows hpk hpbg
              go_upto_region 18 with fail
              refine wp_region_lexp (fun w' => w'.rangeAt gs (0 + k * 20) (idc (ids k))) hra ?_
              refine lex_index 68 70 _ _ gs 0 n n k 20 rfl rfl rfl rfl hlt Trym.underlying68 i70 ?_
              simp only [Act.put, List.setIfInBounds_toArray, List.set_cons_zero, List.set_cons_succ]
              refine lex_load 70 _ gs (0 + k * 20) (idc (ids k)) _ rfl rfl rfl (fun _ h => h) Trym.underlying70 rfl (by rw [i70, idc_length, hlx]) ?_
              simp only [Act.put, List.setIfInBounds_toArray, List.set_cons_zero, List.set_cons_succ]
              refine lex_alloc 70 z rfl rfl rfl (hz _) hraA ?_
              simp only [Act.put, List.setIfInBounds_toArray, List.set_cons_zero, List.set_cons_succ]
              refine lex_store 70 _ _ wr.heap.size 0 (idc (ids k)).toArray rfl rfl rfl rfl rfl (by rw [List.size_toArray]; exact HT.out) (by rw [i70, List.size_toArray, idc_length, hlx]) (all_oneCell_toArray (idc_one _)) hraS ?_
              simp only [Act.put, List.setIfInBounds_toArray, List.set_cons_zero, List.set_cons_succ]
              refine lex_nil (NoPanic.normal ?_)
              clear hra hraA hraS HT hz hzs
              generalize hW1 : (wr.alloc (.cells z.cells 70)).setCells wr.heap.size 0 (idc (ids k)) = W1 at *
              clear hW1
              generalize wr.heap.size = pb at *
              have hobn : ob ∉ (Value.slice (some ⟨gs, 0, none⟩) n n).ownBlock.toList := by simp [Value.ownBlock]; exact fun e => hgs e.symm
              have hgBn : gB ∉ (Value.slice (some ⟨gs, 0, none⟩) n n).ownBlock.toList := by simp [Value.ownBlock]; exact fun e => n1 e.symm
              have hcW0 : W1.cell? ⟨ob, 0, none⟩ = some (.map (some gB)) := HV.out.2.2.2.1.cell HC3.out hobn
              obtain ⟨K3, hB3⟩ := HX.out.2.2.1
              have hBW : MapV W1.drew gB F3 K3 := HV.out.2.2.2.1.drew.map hB3 hgBn
              have hlB := hBW.look_ok (T := 80) (z := nilS) Trym.underlying80 zero84 hlx
              have HL := hide hlB
              clear hlB hBW hB3
              go_upto_region 19 with fail
              refine wp_region_lex (fun w' => w'.cell? ⟨ob, 0, none⟩ = some (.map (some gB)) ∧ w'.rangeAt pb 0 (idc (ids k))) (by kernel_rfl) (by kernel_rfl) ⟨hcW0, hnr⟩ ?_
              refine lex_mv (.pointer (some ⟨ob, 0, none⟩)) _ rfl rfl rfl ?_
              simp only [Act.put, List.setIfInBounds_toArray, List.set_cons_zero, List.set_cons_succ]
              refine lex_nilc _ ⟨ob, 0, none⟩ rfl rfl rfl ?_
              simp only [Act.put, List.setIfInBounds_toArray, List.set_cons_zero, List.set_cons_succ]
              refine lex_field 83 _ 0 ob 0 0 _ _ rfl rfl rfl Trym.underlying83 rfl i80 rfl ?_
              simp only [Act.put, List.setIfInBounds_toArray, List.set_cons_zero, List.set_cons_succ]
              refine lex_load1 80 _ ob 0 (.map (some gB)) rfl rfl rfl (fun _ h => h.1) (fun w => Trym.isAgg80 w) ?_
              simp only [Act.put, List.setIfInBounds_toArray, List.set_cons_zero, List.set_cons_succ]
              refine lex_load 70 _ pb 0 (idc (ids k)) _ rfl rfl rfl (fun _ h => h.2) Trym.underlying70 rfl (by rw [i70, idc_length, hlx]) ?_
              simp only [Act.put, List.setIfInBounds_toArray, List.set_cons_zero, List.set_cons_succ]
              refine lex_looks 80 _ _ true (.map (some gB)) (.agg (idc (ids k)).toArray) (.tuple #[(F3 (ids k)).getD nilS, .bool (F3 (ids k)).isSome]) (by kernel_rfl) rfl rfl rfl rfl HL.out ⟨hcW0, hnr⟩ ?_
              simp only [Act.put, List.setIfInBounds_toArray, List.set_cons_zero, List.set_cons_succ]
              refine lex_mv (.tuple #[(F3 (ids k)).getD nilS, .bool (F3 (ids k)).isSome]) _ rfl rfl rfl ?_
              simp only [Act.put, List.setIfInBounds_toArray, List.set_cons_zero, List.set_cons_succ]
              refine lex_extract _ 0 #[(F3 (ids k)).getD nilS, .bool (F3 (ids k)).isSome] ((F3 (ids k)).getD nilS) rfl rfl rfl rfl ?_
              simp only [Act.put, List.setIfInBounds_toArray, List.set_cons_zero, List.set_cons_succ]
              refine lex_extract _ 1 #[(F3 (ids k)).getD nilS, .bool (F3 (ids k)).isSome] (.bool (F3 (ids k)).isSome) rfl rfl rfl rfl ?_
              simp only [Act.put, List.setIfInBounds_toArray, List.set_cons_zero, List.set_cons_succ]
              refine lex_as ((F3 (ids k)).getD nilS) _ rfl rfl rfl ?_
              simp only [Act.put, List.setIfInBounds_toArray, List.set_cons_zero, List.set_cons_succ]
              refine lex_as (.bool (F3 (ids k)).isSome) _ rfl rfl rfl ?_
              simp only [Act.put, List.setIfInBounds_toArray, List.set_cons_zero, List.set_cons_succ]
              refine lex_nil (NoPanic.normal ?_)
              clear HL hcW0
              cases hq : (F3 (ids k)).isSome with
              | false =>
                have HPF : Hid ((idl ids (k + 1)).filter (fun x => (F3 x).isSome) = fk) := hide (by rw [HPK.out, hq]; rfl)
                clear hq
                go_wp2
                go_roundw
                case rel => exact ⟨k + 1, by omega, by go_num, by rw [HPF.out], fun gs' e => by
                    have e' : gs = gs' := by simpa using e
                    subst e'
                    rw [HPF.out]
                    exact ⟨HV.out.1, HV.out.2.1, fun i h1 h2 => HV.out.2.2.1 i (by omega) h2⟩, HV.out.2.2.2.1.drew⟩
                case measure => simp [intOf]; omega
              | true =>
                have HPT : Hid ((idl ids (k + 1)).filter (fun x => (F3 x).isSome) = fk ++ [ids k]) := hide (by rw [HPK.out, hq]; rfl)
                clear hq
                go_upto_region 21 with fail
                have hnr2 : W1.drew.rangeAt pb 0 (idc (ids k)) := hnr
                have hKA : KpB W1.drew (W1.drew.alloc (.cells (idc (ids k)).toArray 70)) [] := KpB.alloc _ _ _
                have hgsW : gs < W1.drew.heap.size := WB.lt (w := W1.drew) HV.out.1
                have hwbA : WB (W1.drew.alloc (.cells (idc (ids k)).toArray 70)) gs 70 (n * 20) := WB.alloc (w := W1.drew) HV.out.1 _
                have hap := append_room (P := Trym.prog) Trym.underlying68 i70 68 (w := W1.drew.alloc (.cells (idc (ids k)).toArray 70)) (g := gs) (n := fk.length) (cap := n) (b := W1.drew.heap.size) (off := 0) (c := 1) (cs := idc (ids k)) (by omega) (rangeAt_new _ _ _) (by rw [idc_length, hlx]) (idc_one _) (hwbA.there (by omega))
                have hrowA : WRow (W1.drew.alloc (.cells (idc (ids k)).toArray 70)) gs 0 fk.length 20 (fun i => idc (lid (fk ++ [ids k]) i)) := fun i hi => by
                  show World.rangeAt _ _ _ (idc (lid (fk ++ [ids k]) i))
                  rw [lid_snoc_lt hi]
                  exact hKA.range (w := W1.drew) (HV.out.2.1 i hi) (by simp)
                have hsn := hrowA.snoc hwbA (by omega) (fun i hi => by
                  show (idc (lid (fk ++ [ids k]) i)).length = 20
                  by_cases h9 : i < fk.length
                  · rw [lid_snoc_lt h9]
                    rw [idc_length, hfl20 _ (lid_mem h9)]
                  · have : i = fk.length := by omega
                    subst this
                    rw [lid_snoc_eq, idc_length, hlx])
                rw [Nat.zero_add] at hsn
                simp only [lid_snoc_eq] at hsn
                have hkpS : KpB (W1.drew.alloc (.cells (idc (ids k)).toArray 70)) ((W1.drew.alloc (.cells (idc (ids k)).toArray 70)).setCells gs (fk.length * 20) (idc (ids k))) (Value.slice (some ⟨gs, 0, none⟩) n n).ownBlock.toList := KpB.setCells (by simp [Value.ownBlock])
                have hkpN : KpB W3 ((W1.drew.alloc (.cells (idc (ids k)).toArray 70)).setCells gs (fk.length * 20) (idc (ids k))) (Value.slice (some ⟨gs, 0, none⟩) n n).ownBlock.toList := (HV.out.2.2.2.1.drew.then_new hKA).trans hkpS
                have hwbN := hwbA.setCells (fk.length * 20) (idc (ids k))
                have hsufN : ∀ i, k + 1 ≤ i → i < n → ((W1.drew.alloc (.cells (idc (ids k)).toArray 70)).setCells gs (fk.length * 20) (idc (ids k))).rangeAt gs (0 + i * 20) (idc (ids i)) := fun i h1 h2 => by
                  refine World.rangeAt_setCells_apart (hKA.range (w := W1.drew) (HV.out.2.2.1 i (by omega) h2) (by simp)) _ _ _ (.inr (.inr ?_))
                  rw [idc_length, hlx]
                  omega
                have HN := hide (And.intro hwbN (And.intro hsn (And.intro hsufN hkpN)))
                have HAP := hide hap
                clear hwbN hsn hsufN hkpN hkpS hap hrowA hwbA hKA hnr hgsW
                refine wp_region_lexp (fun w' => True) trivial ?_
                refine lex_mv (.slice (some ⟨gs, 0, none⟩) fk.length n) _ rfl rfl rfl ?_
                simp only [Act.put, List.setIfInBounds_toArray, List.set_cons_zero, List.set_cons_succ]
                refine lex_loadx 70 _ pb 0 (idc (ids k)) _ rfl rfl rfl rfl hnr2 Trym.underlying70 rfl (by rw [i70, idc_length, hlx]) trivial ?_
                simp only [Act.put, List.setIfInBounds_toArray, List.set_cons_zero, List.set_cons_succ]
                refine lex_bslice 68 1 _ #[(0, .agg (idc (ids k)).toArray)] _ _ rfl rfl rfl rfl (one_slice Trym.underlying68 e70 (by omega) (by omega) _ (by rw [idc_length, hlx]) _) trivial ?_
                simp only [Act.put, List.setIfInBounds_toArray, List.set_cons_zero, List.set_cons_succ]
                refine lex_append 68 _ _ (.slice (some ⟨gs, 0, none⟩) fk.length n) (.slice (some ⟨W1.drew.heap.size, 0, none⟩) 1 1) (.slice (some ⟨gs, 0, none⟩) (fk.length + 1) n) _ rfl rfl rfl rfl rfl HAP.out trivial ?_
                simp only [Act.put, List.setIfInBounds_toArray, List.set_cons_zero, List.set_cons_succ]
                refine lex_as (.slice (some ⟨gs, 0, none⟩) (fk.length + 1) n) _ rfl rfl rfl ?_
                simp only [Act.put, List.setIfInBounds_toArray, List.set_cons_zero, List.set_cons_succ]
                refine lex_nil (NoPanic.normal ?_)
                clear HAP hnr2
                go_wp2
                go_roundw
                case rel => exact ⟨k + 1, by omega, by go_num, by rw [HPT.out, List.length_append]; rfl, fun gs' e => by
                    have e' : gs = gs' := by simpa using e
                    subst e'
                    rw [HPT.out, List.length_append]
                    exact ⟨HN.out.1, HN.out.2.1, HN.out.2.2.1⟩, HN.out.2.2.2⟩
                case measure => simp [intOf]; omega
            · have hkn : n = k := by omega
              subst hkn
              have hobn : ob ∉ (Value.slice ba n bc).ownBlock.toList := by
                rcases HR.out.2.2.2.2.1 with ⟨h1, _⟩ | ⟨gs', h1, h2, _⟩
                · rw [h1]; simp [Value.ownBlock]
                · rw [h2]; simp [Value.ownBlock]; exact fun e => h1 e.symm
              have hobW2 : ob < W2.heap.size := Nat.lt_of_lt_of_le hobl HO.out.2.size
              have hobW3 : ob < W3.heap.size := Nat.lt_of_lt_of_le hobW2 HX.out.2.2.2.2.size
              have hblk : wr.heap[ob]? = w.heap[ob]? := (hkp.block ob hobW3 hobn).trans ((HX.out.2.2.2.2.block ob hobW2 (by simp [hobB, hobW])).trans (HO.out.2.block ob hobl))
              have hc1r : wr.cell? ⟨ob, 1, none⟩ = some (.slice ba n bc) := (World.cell?_of_block (a := ⟨ob, 1, none⟩) hblk).trans HC.out.2.1
              have hf1r : wr.frozen? ⟨ob, 1, none⟩ = false := (World.frozen?_of_block (a := ⟨ob, 1, none⟩) hblk).trans HR.out.2.2.2.2.2.2.1
              have hc0r : wr.cell? ⟨ob, 0, none⟩ = some (.map (some gB)) := (World.cell?_of_block (a := ⟨ob, 0, none⟩) hblk).trans HC.out.1
              have hc2r : wr.cell? ⟨ob, 2, none⟩ = some (.map (some gW)) := (World.cell?_of_block (a := ⟨ob, 2, none⟩) hblk).trans HC.out.2.2
              generalize hfk : (idl ids n).filter (fun x => (F3 x).isSome) = fk at *
              have HFK := hide hfk
              have hkf : KpB wr (wr.setCell ⟨ob, 1, none⟩ (.slice ba fk.length bc)) [ob] := KpB.setCells (w := wr) (g := ob) (o := 1) (vs := [.slice ba fk.length bc]) (by simp)
              have hst1 := World.cell?_setCell_same wr ⟨ob, 1, none⟩ (.slice ba fk.length bc) hc1r
              have hst0 := (World.cell?_setCell_other wr ⟨ob, 1, none⟩ ⟨ob, 0, none⟩ (.slice ba fk.length bc) (by simp)).trans hc0r
              have hst2 := (World.cell?_setCell_other wr ⟨ob, 1, none⟩ ⟨ob, 2, none⟩ (.slice ba fk.length bc) (by simp)).trans hc2r
              have HZ := hide (And.intro hrows (And.intro hkp (And.intro hkf (And.intro hst0 (And.intro hst1 hst2)))))
              have HFL := hide hfl20
              clear hrows hkp hkf hst0 hst1 hst2 hc0r hc2r hblk hfk hfl20
              go_wp2
              go_ret
              refine ⟨u8, .slice ba fk.length bc, rfl, ?_⟩
              have hLE := HLE.out
              have hFD := HFD.out
              have hFK := HFK.out
              have hgBl : gB < W2.heap.size := HM2.out.1.lt
              have hgWl : gW < W2.heap.size := HM2.out.2.1.lt
              have hK3 : KpB W3 (wr.setCell ⟨ob, 1, none⟩ (.slice ba fk.length bc)) (ob :: (Value.slice ba n bc).ownBlock.toList) := (HZ.out.2.1.mono (fun y hy => List.mem_cons_of_mem _ hy)).trans (HZ.out.2.2.1.mono (by simp))
              have hbsW2 : ∀ y ∈ (ob :: (Value.slice ba n bc).ownBlock.toList), y < W2.heap.size := fun y hy => by
                rcases HR.out.2.2.2.2.1 with ⟨h1, _⟩ | ⟨gs', h1, h2, _, h4, _⟩
                · rw [h1] at hy; simp [Value.ownBlock] at hy; rw [hy]; exact hobW2
                · rw [h2] at hy
                  simp [Value.ownBlock] at hy
                  rcases hy with rfl | rfl
                  · exact hobW2
                  · exact Nat.lt_of_lt_of_le h4.lt HO.out.2.size
              have hgn : gB ∉ (ob :: (Value.slice ba n bc).ownBlock.toList) ∧ gW ∉ (ob :: (Value.slice ba n bc).ownBlock.toList) := by
                rcases HR.out.2.2.2.2.1 with ⟨h1, _⟩ | ⟨gs', h1, h2, _, h4, _⟩
                · rw [h1]; simp [Value.ownBlock]; exact ⟨Ne.symm hobB, Ne.symm hobW⟩
                · rw [h2]
                  simp [Value.ownBlock]
                  exact ⟨⟨Ne.symm hobB, fun e => (h4.ne_map HR.out.1) e.symm⟩, ⟨Ne.symm hobW, fun e => (h4.ne_map HR.out.2.1) e.symm⟩⟩
              have hRok : ∀ t ∈ (gath T L1).2, t.ok := gath_ok_from L1 ([], []) (by simp) (fun x hx t ht => by
                obtain ⟨h1, h2⟩ := HL1.out.1 x hx
                have h3 : (F x).isSome = true := by
                  simp only [sel, Bool.and_eq_true] at h1
                  exact h1.1
                obtain ⟨tv, htv⟩ := Option.isSome_iff_exists.1 h3
                obtain ⟨i, hi, rfl⟩ := mem_trl ht
                exact (HM2.out.2.2 x h2 tv htv).1.2 i hi)
              have hown3 := HX.out.1.kp hK3 hbsW2
              obtain ⟨K9, hB9⟩ := HX.out.2.2.1
              obtain ⟨K8, hW8, hK8⟩ := HX.out.2.2.2.1
              constructor
              · rw [hLE]; exact trees_view hown3 hRok
              · rw [hLE]; exact HX.out.2.1
              · exact HZ.out.2.2.2.1
              · exact HZ.out.2.2.2.2.1
              · exact HZ.out.2.2.2.2.2
              · rw [hLE, hFD, hFK]
                refine ⟨?_, fun i hi => HFL.out _ (lid_mem hi)⟩
                rcases HR.out.2.2.2.2.1 with ⟨h1, h2, h3⟩ | ⟨gs', h1, h2, _⟩
                · left
                  subst h2
                  have : fk = [] := by rw [← hFK]; rfl
                  rw [this, h1, h3]
                  exact ⟨rfl, rfl⟩
                · right
                  refine ⟨gs', 0, bc, by rw [h2], fun i hi => ?_⟩
                  exact HZ.out.2.2.1.range ((HZ.out.1 gs' h2).2.1 i hi) (by simp; exact h1)
              · rcases HR.out.2.2.2.2.1 with ⟨h1, h2, h3⟩ | ⟨gs', h1, h2, _⟩
                · subst h2
                  have : fk = [] := by rw [← hFK]; rfl
                  rw [this, h1, h3]
                  exact Iff.rfl
                · rw [h2]
                  simp [NilAs]
              · rw [hLE, hFD]
                exact ⟨K9, hK3.map hB9 hgn.1⟩
              · rw [hLE]
                exact ⟨K8, hK3.map hW8 hgn.2, hK8⟩
              · refine (KpB.of_below HO.out.2).trans ((HX.out.2.2.2.2.mono (by simp)).trans (hK3.mono ?_))
                intro y hy
                rcases List.mem_cons.1 hy with rfl | hy
                · simp
                · simp [hy]

end Go.Proofs.Qxb6601415aMods
