import Derived.Test.Qxb6601415aModsY
namespace Go.Proofs.Qxb6601415aMods
open Go.RowKit Go.Extern.Stop Go.Maps Go.ChangeMaps
set_option linter.unusedVariables false
set_option linter.unusedSimpArgs false
set_option maxRecDepth 20000

theorem i80 : (Trym.prog.info? 80).map (·.size) = some 1 := by kernel_rfl
theorem i81 : (Trym.prog.info? 81).map (·.size) = some 1 := by kernel_rfl
theorem i68 : (Trym.prog.info? 68).map (·.size) = some 1 := by kernel_rfl
theorem zero_of {t sz sz' by' : Nat} (hi : (Trym.prog.info? t).map (fun i => (i.zero.map (·.cells.size), i.size, i.bytes)) = some (some sz, sz', by')) : ∃ z : Value, z.cells.size = sz ∧ ∀ w, (zeroValue t).run Trym.prog w = .ok z w := by
  obtain ⟨i, hi1, hi2⟩ := Option.map_eq_some_iff.1 hi
  obtain ⟨z, hz1, hz2⟩ := Option.map_eq_some_iff.1 (Prod.mk.inj hi2).1
  exact ⟨z, hz2, fun w => by simp [zeroValue, typeInfo, hi1, hz1]⟩
theorem zero84 (w : World) : (zeroValue 84).run Trym.prog w = .ok (.slice none 0 0) w := by kernel_rfl
theorem zero3 (w : World) : (zeroValue 3).run Trym.prog w = .ok (.int .i64 0) w := by kernel_rfl

/-- The count at x, lowered by one; an entry of 0 is struck. -/
def decN (G : List UInt8 → Option Int) (x : List UInt8) : Int := IntKind.i64.wrap ((G x).getD 0 - 1)
def decG (G : List UInt8 → Option Int) (x : List UInt8) : List UInt8 → Option Int := fun y => if y = x then (if decN G x = 0 then none else some (decN G x)) else G y
def decAll (G : List UInt8 → Option Int) (ts : Nat → Tr) : Nat → List UInt8 → Option Int
  | 0 => G
  | n + 1 => decG (decAll G ts n) (ts n).id

def intF (G : List UInt8 → Option Int) : List UInt8 → Option Value := fun x => (G x).map (Value.int .i64)
/-- Block g is a map from ids to ints that holds G, of at most m entries. -/
def MapI (w : World) (g : Nat) (G : List UInt8 → Option Int) (m : Nat) : Prop := ∃ K, MapV w g (intF G) K ∧ K.length ≤ m
theorem addK_le (K : List (List UInt8)) (x : List UInt8) : (addK K x).length ≤ K.length + 1 := by
  unfold addK
  split
  · omega
  · simp
theorem delK_le (K : List (List UInt8)) (x : List UInt8) : (delK K x).length ≤ K.length := List.length_filter_le _ _
theorem intF_get (G : List UInt8 → Option Int) (x : List UInt8) : (intF G x).getD (.int .i64 0) = .int .i64 ((G x).getD 0) := by
  unfold intF
  cases G x <;> rfl
theorem intF_keep {G : List UInt8 → Option Int} {x : List UInt8} (h : decN G x ≠ 0) : updF (intF G) x (some (.int .i64 (decN G x))) = intF (decG G x) := by
  funext y
  unfold updF intF decG
  by_cases e : y = x
  · rw [if_pos e, if_pos e, if_neg h]; rfl
  · rw [if_neg e, if_neg e]
theorem intF_strike {G : List UInt8 → Option Int} {x : List UInt8} (h : decN G x = 0) (v : Value) : updF (updF (intF G) x (some v)) x none = intF (decG G x) := by
  funext y
  unfold updF intF decG
  by_cases e : y = x
  · rw [if_pos e, if_pos e, if_pos h]; rfl
  · rw [if_neg e, if_neg e, if_neg e]

theorem range_no_map {w : World} {g : Nat} {F : List UInt8 → Option Value} {K : List (List UInt8)} (h : MapV w g F K) {b off : Nat} {cs : List Value} (hr : w.rangeAt b off cs) (hc : 0 < cs.length) : b ≠ g := by
  cases cs with
  | nil => simp at hc
  | cons v r => exact map_no_cell h (hr 0 v rfl)

def nilS : Value := .slice none 0 0

set_option maxHeartbeats 8000000 in
theorem take_any (ob gB gW : Nat) (F : List UInt8 → Option Value) (KB : List (List UInt8)) (G : List UInt8 → Option Int) (m : Nat) (base : List UInt8) (n : Nat) (ts : Nat → Tr) (w : World)
    (hbl : base.length = 20) (hc0 : w.cell? ⟨ob, 0, none⟩ = some (.map (some gB))) (hc2 : w.cell? ⟨ob, 2, none⟩ = some (.map (some gW))) (hgg : gB ≠ gW)
    (hB : MapV w gB F KB) (hW : MapI w gW G m) (hm : m + n ≤ 500000000) (htr : TreesV w ((F base).getD nilS) n ts) :
    Calls Trym.prog 41 #[.pointer (some ⟨ob, 0, none⟩), .agg (idc base).toArray] w fun e w' => e = .returned ((F base).getD nilS) ∧ MapV w' gB (updF F base none) (delK KB base) ∧ MapI w' gW (decAll G ts n) (m + n) ∧ KpB w w' [gB, gW] := by
  obtain ⟨KW, hW, hKW⟩ := hW
  obtain ⟨ta, tc, htv, hto⟩ := htr.1.open
  have hoks := htr.2
  have hobB : ob ≠ gB := map_no_cell hB hc0
  have hobW : ob ≠ gW := map_no_cell hW hc0
  have hob : ob ∉ [gB, gW] := by simp [hobB, hobW]
  have hto : ∀ k, k < n → ∃ b off, ta = some ⟨b, off, none⟩ ∧ WRow w b off n 43 (fun i => trc (ts i)) ∧ b ∉ [gB, gW] := fun k hk => by
    obtain ⟨b, off, e, hr⟩ := hto k hk
    have hl : 0 < (trc (ts k)).length := by rw [trc_length (hoks k hk)]; omega
    exact ⟨b, off, e, hr, by simp [range_no_map hB (hr k hk) hl, range_no_map hW (hr k hk) hl]⟩
  have hobl : ob < w.heap.size := World.block_lt_of_cell? w _ hc0
  rw [htv]
  -- the first two regions' worlds
  have hlook := MapV.look (T := 80) (z := nilS) (hB.keep (w' := (w.alloc (.cells (idc base).toArray 70)).drew) (Below.heap_alloc w _ gB hB.lt)) Trym.underlying80 zero84 hbl
  rw [htv] at hlook
  have hKA : KpB w (w.alloc (.cells (idc base).toArray 70)) [gB, gW] := KpB.alloc _ _ _
  have hbox : (w.alloc (.cells (idc base).toArray 70)).rangeAt w.heap.size 0 (idc base) := rangeAt_new _ _ _
  have hcA0 := hKA.cell hc0 hob
  have hBA : MapV (w.alloc (.cells (idc base).toArray 70)).drew.drew gB F KB := hB.keep (Below.heap_alloc w _ gB hB.lt)
  obtain ⟨wd, hdel, hBd, htd⟩ := hBA.drop (T := 80) Trym.underlying80 hbl 0
  have hKd : KpB w wd [gB, gW] := hKA.drew.drew.trans (KpB.turned htd (by simp))
  have hboxd : wd.rangeAt w.heap.size 0 (idc base) := (KpB.turned (S := [gB]) htd (by simp)).range hbox (by simp; exact Nat.ne_of_gt hB.lt)
  have hcd0 := hKd.cell hc0 hob
  have hWd : MapV wd gW (intF G) KW := (KpB.turned (S := [gB]) htd (by simp)).map (hW.keep (w' := (w.alloc (.cells (idc base).toArray 70)).drew.drew) (Below.heap_alloc w _ gW hW.lt)) (by simp; exact Ne.symm hgg)
  have HD := hide (And.intro hBd (And.intro hWd (And.intro hKd (And.intro hKW (And.intro hto (And.intro hoks (And.intro hc2 hgg)))))))
  have HE := hide hdel
  clear hBd hWd hKd hKW hto hoks hc2 hgg hdel htd htr hW hB hBA hKA
  go_enter Trym.func41, Trym.ntmps41
  go_upto_region 1 with fail
  refine wp_region_lex (fun w' => w'.cell? ⟨ob, 0, none⟩ = some (.map (some gB)) ∧ w'.rangeAt w.heap.size 0 (idc base)) (by kernel_rfl) (by kernel_rfl) ⟨hcA0, hbox⟩ ?_
  refine lex_mv (.pointer (some ⟨ob, 0, none⟩)) _ rfl rfl rfl ?_
  simp only [Act.put, List.setIfInBounds_toArray, List.set_cons_zero, List.set_cons_succ]
  refine lex_nilc _ ⟨ob, 0, none⟩ rfl rfl rfl ?_
  refine lex_field 83 _ 0 ob 0 0 _ _ rfl rfl rfl Trym.underlying83 rfl i80 rfl ?_
  simp only [Act.put, List.setIfInBounds_toArray, List.set_cons_zero, List.set_cons_succ]
  refine lex_load1 80 _ ob 0 (.map (some gB)) rfl rfl rfl (fun _ h => h.1) (fun w => Trym.isAgg80 w) ?_
  simp only [Act.put, List.setIfInBounds_toArray, List.set_cons_zero, List.set_cons_succ]
  refine lex_load 70 _ w.heap.size 0 (idc base) _ rfl rfl rfl (fun _ h => h.2) Trym.underlying70 rfl (by rw [i70, idc_length, hbl]) ?_
  simp only [Act.put, List.setIfInBounds_toArray, List.set_cons_zero, List.set_cons_succ]
  refine lex_looks 80 _ _ false (.map (some gB)) (.agg (idc base).toArray) (.slice ta n tc) (by kernel_rfl) rfl rfl rfl rfl hlook ⟨hcA0, hbox⟩ ?_
  simp only [Act.put, List.setIfInBounds_toArray, List.set_cons_zero, List.set_cons_succ]
  refine lex_as (.slice ta n tc) _ rfl rfl rfl ?_
  simp only [Act.put, List.setIfInBounds_toArray, List.set_cons_zero, List.set_cons_succ]
  refine lex_nil (NoPanic.normal ?_)
  clear hlook
  go_upto_region 2 with fail
  refine wp_region_lex (fun w' => w'.cell? ⟨ob, 0, none⟩ = some (.map (some gB)) ∧ w'.rangeAt w.heap.size 0 (idc base)) (by kernel_rfl) (by kernel_rfl) ⟨hcA0, hbox⟩ ?_
  refine lex_mv (.pointer (some ⟨ob, 0, none⟩)) _ rfl rfl rfl ?_
  simp only [Act.put, List.setIfInBounds_toArray, List.set_cons_zero, List.set_cons_succ]
  refine lex_nilc _ ⟨ob, 0, none⟩ rfl rfl rfl ?_
  refine lex_field 83 _ 0 ob 0 0 _ _ rfl rfl rfl Trym.underlying83 rfl i80 rfl ?_
  simp only [Act.put, List.setIfInBounds_toArray, List.set_cons_zero, List.set_cons_succ]
  refine lex_load1 80 _ ob 0 (.map (some gB)) rfl rfl rfl (fun _ h => h.1) (fun w => Trym.isAgg80 w) ?_
  simp only [Act.put, List.setIfInBounds_toArray, List.set_cons_zero, List.set_cons_succ]
  refine lex_load 70 _ w.heap.size 0 (idc base) _ rfl rfl rfl (fun _ h => h.2) Trym.underlying70 rfl (by rw [i70, idc_length, hbl]) ?_
  simp only [Act.put, List.setIfInBounds_toArray, List.set_cons_zero, List.set_cons_succ]
  refine lex_delete 80 70 _ _ (.map (some gB)) (.agg (idc base).toArray) (.tuple #[]) wd (by kernel_rfl) rfl rfl rfl rfl HE.out ⟨hcd0, hboxd⟩ ?_
  simp only [Act.put, List.setIfInBounds_toArray, List.set_cons_zero, List.set_cons_succ]
  refine lex_nil (NoPanic.normal ?_)
  clear hcA0 hbox HE hcd0 hboxd
  go_wp2
  go_loopw [21] (fun i wr => ∃ k : Nat, k ≤ n ∧ i = .int .i64 k ∧ MapV wr gB (updF F base none) (delK KB base) ∧ MapI wr gW (decAll G ts k) (m + k) ∧ KpB w wr [gB, gW]) (fun i _ => n - (intOf i).toNat)
  case atStart => exact ⟨0, Nat.zero_le _, rfl, HD.out.1, ⟨KW, HD.out.2.1, HD.out.2.2.2.1⟩, HD.out.2.2.1⟩
  case round =>
    obtain ⟨k, hk, rfl, hB, hW, hKp⟩ := hrel
    by_cases hlt : k < n
    · obtain ⟨b, off, rfl, hrow, hbn⟩ := HD.out.2.2.2.2.1 k hlt
      have hok := HD.out.2.2.2.2.2.1 k hlt
      have hc2 := HD.out.2.2.2.2.2.2.1
      have hgg := HD.out.2.2.2.2.2.2.2
      obtain ⟨K1, hV, hK1⟩ := hW
      have hra : wr.rangeAt b (off + k * 43) (trc (ts k)) := hKp.range (hrow k hlt) hbn
      have hc2r := hKp.cell hc2 hob
      obtain ⟨z, hzs, hz⟩ := zero_of e91
      have hlx : (ts k).id.length = 20 := hok.1
      have hwb : WB (wr.alloc (.cells z.cells 91)) wr.heap.size 91 43 := WB_new _ _ _ hzs
      -- the new variable
      have hKa : KpB wr (wr.alloc (.cells z.cells 91)) [] := KpB.alloc _ _ _
      have hKs : KpB (wr.alloc (.cells z.cells 91)) ((wr.alloc (.cells z.cells 91)).setCells wr.heap.size 0 (trc (ts k))) [wr.heap.size] := KpB.setCells (by simp)
      have hneW : gW ≠ wr.heap.size := Nat.ne_of_lt hV.lt
      have hneB : gB ≠ wr.heap.size := Nat.ne_of_lt hB.lt
      have hneO : ob ≠ wr.heap.size := Nat.ne_of_lt (World.block_lt_of_cell? wr _ hc2r)
      have hneb : b ≠ wr.heap.size := Nat.ne_of_lt (rangeAt_lt hra (by rw [trc_length hok]; omega))
      have hws : ((wr.alloc (.cells z.cells 91)).setCells wr.heap.size 0 (trc (ts k))).rangeAt wr.heap.size 0 (trc (ts k)) := World.rangeAt_setCells_same _ _ _ _ (hwb.there (by rw [trc_length hok]; omega))
      have hraA : (wr.alloc (.cells z.cells 91)).rangeAt b (off + k * 43) (trc (ts k)) := hKa.range hra (by simp)
      have hraS := hKs.range hraA (by simp [hneb])
      have hc2A := hKs.cell (hKa.cell hc2r (by simp)) (by simp [hneO])
      have hVS := hKs.map (hKa.map hV (by simp)) (by simp [hneW])
      have hBS := hKs.map (hKa.map hB (by simp)) (by simp [hneB])
      have hidS := (trc_range hws hok).1
      have hKS : KpB w ((wr.alloc (.cells z.cells 91)).setCells wr.heap.size 0 (trc (ts k))) [gB, gW] := by
        refine ⟨hKs.os.trans (hKa.os.trans hKp.os), hKs.tape.trans (hKa.tape.trans hKp.tape), hKs.output.trans (hKa.output.trans hKp.output), Nat.le_trans hKp.size (Nat.le_trans hKa.size hKs.size), fun j hj hS => ?_⟩
        have hjr : j < wr.heap.size := Nat.lt_of_lt_of_le hj hKp.size
        exact (hKs.block j (Nat.lt_of_lt_of_le hjr hKa.size) (by simp; omega)).trans ((hKa.block j hjr (by simp)).trans (hKp.block j hj hS))
      have hth : (wr.alloc (.cells z.cells 91)).there wr.heap.size 0 (trc (ts k)).toArray.size := hwb.there (by rw [List.size_toArray, trc_length hok]; omega)
      have HT := hide hth
      have HS := hide (And.intro hVS (And.intro hBS (And.intro hKS hK1)))
      clear hVS hBS hKS hK1 hth hwb hKa hKs hneb hneO hV hB hKp hrow hws
      go_upto_region 5 with fail
      refine wp_region_lexp (fun w' => w'.rangeAt b (off + k * 43) (trc (ts k))) hra ?_
      refine lex_index 84 91 _ _ b off n tc k 43 rfl rfl rfl rfl hlt Trym.underlying84 i91 ?_
      simp only [Act.put, List.setIfInBounds_toArray, List.set_cons_zero, List.set_cons_succ]
      refine lex_load 91 _ b (off + k * 43) (trc (ts k)) _ rfl rfl rfl (fun _ h => h) Trym.underlying91 rfl (by rw [i91, trc_length hok]) ?_
      simp only [Act.put, List.setIfInBounds_toArray, List.set_cons_zero, List.set_cons_succ]
      refine lex_alloc 91 z rfl rfl rfl (hz _) hraA ?_
      simp only [Act.put, List.setIfInBounds_toArray, List.set_cons_zero, List.set_cons_succ]
      refine lex_store 91 _ _ wr.heap.size 0 (trc (ts k)).toArray rfl rfl rfl rfl rfl HT.out (by rw [i91, List.size_toArray, trc_length hok]) (all_oneCell_toArray (trc_one _)) hraS ?_
      simp only [Act.put, List.setIfInBounds_toArray, List.set_cons_zero, List.set_cons_succ]
      refine lex_nil (NoPanic.normal ?_)
      clear hra hraA hraS HT hz hzs hc2r
      generalize hW1 : (wr.alloc (.cells z.cells 91)).setCells wr.heap.size 0 (trc (ts k)) = W1 at *
      clear hW1
      go_upto_region 6 with fail
      have hgd : decN (decAll G ts k) (ts k).id = IntKind.i64.wrap (((decAll G ts k) (ts k).id).getD 0 - 1) := rfl
      have HG := hide hgd
      clear hgd
      have hmk : K1.length ≤ 1000000000 := by have := HS.out.2.2.2; omega
      have hVd : MapV W1.drew gW (intF (decAll G ts k)) K1 := HS.out.1
      have hlk := hVd.look (T := 81) Trym.underlying81 zero3 hlx
      rw [intF_get] at hlk
      obtain ⟨v0, st, W2, hent, ht2, hV2, hsto⟩ := hVd.entry (T := 81) Trym.underlying81 zero3 hmk hlx
      obtain ⟨W3, hes, hV3, ht3⟩ := hsto (.int .i64 (decN (decAll G ts k) (ts k).id))
      have hK2 : KpB W1.drew W2 [gW] := KpB.turned ht2 (by simp)
      have hK3 : KpB W1.drew W3 [gW] := KpB.turned ht3 (by simp)
      have hpb : wr.heap.size ∉ [gW] := by simp [Ne.symm hneW]
      have hobw : ob ∉ [gW] := by simp [hobW]
      have hlk2 := hV2.look (T := 81) Trym.underlying81 zero3 hlx
      rw [show updF (intF (decAll G ts k)) (ts k).id (some ((intF (decAll G ts k) (ts k).id).getD (.int .i64 0))) (ts k).id = some ((intF (decAll G ts k) (ts k).id).getD (.int .i64 0)) from if_pos rfl, Option.getD_some, intF_get] at hlk2
      have hS2 := And.intro (hK2.cell (v := .map (some gW)) (p := ⟨ob, 2, none⟩) hc2A hobw) (And.intro (hK2.range hidS hpb) hlk2)
      have hS3 := And.intro (hK3.cell (v := .map (some gW)) (p := ⟨ob, 2, none⟩) hc2A hobw) (hK3.range hidS hpb)
      have hB3 : MapV W3 gB (updF F base none) (delK KB base) := hK3.map (w := W1.drew) HS.out.2.1 (by simp [hgg])
      have hKw3 : KpB w W3 [gB, gW] := HS.out.2.2.1.drew.trans (hK3.mono (by simp))
      have H3 := hide (And.intro hV3 (And.intro hB3 hKw3))
      have H4 := hide (And.intro hlk (And.intro hent hes))
      clear hlk hlk2 hV2 hent hes hV3 hB3 hKw3 ht2 ht3 hsto hVd hK2 hK3
      refine wp_region_lex (fun w' => w'.cell? ⟨ob, 2, none⟩ = some (.map (some gW)) ∧ w'.rangeAt wr.heap.size 0 (idc (ts k).id) ∧ (Instr.lookup 81 (.map (some gW)) (.agg (idc (ts k).id).toArray) false).run Trym.prog w' = .ok (.int .i64 (((decAll G ts k) (ts k).id).getD 0)) w') (by kernel_rfl) (by kernel_rfl) ⟨hc2A, hidS, H4.out.1⟩ ?_
      refine lex_mv (.pointer (some ⟨ob, 0, none⟩)) _ rfl rfl rfl ?_
      simp only [Act.put, List.setIfInBounds_toArray, List.set_cons_zero, List.set_cons_succ]
      refine lex_nilc _ ⟨ob, 0, none⟩ rfl rfl rfl ?_
      refine lex_field 83 _ 2 ob 0 2 _ _ rfl rfl rfl Trym.underlying83 rfl i81 rfl ?_
      simp only [Act.put, List.setIfInBounds_toArray, List.set_cons_zero, List.set_cons_succ]
      refine lex_load1 81 _ ob 2 (.map (some gW)) rfl rfl rfl (fun _ h => h.1) (fun w => Trym.isAgg81 w) ?_
      simp only [Act.put, List.setIfInBounds_toArray, List.set_cons_zero, List.set_cons_succ]
      refine lex_field 91 _ 0 wr.heap.size 0 0 _ _ rfl rfl rfl Trym.underlying91 rfl i70 rfl ?_
      simp only [Act.put, List.setIfInBounds_toArray, List.set_cons_zero, List.set_cons_succ]
      refine lex_load 70 _ wr.heap.size 0 (idc (ts k).id) _ rfl rfl rfl (fun _ h => h.2.1) Trym.underlying70 rfl (by rw [i70, idc_length, hlx]) ?_
      simp only [Act.put, List.setIfInBounds_toArray, List.set_cons_zero, List.set_cons_succ]
      refine lex_lookq 81 _ _ false (.map (some gW)) (.agg (idc (ts k).id).toArray) (.int .i64 (((decAll G ts k) (ts k).id).getD 0)) rfl rfl rfl rfl (fun _ h => h.2.2) ?_
      simp only [Act.put, List.setIfInBounds_toArray, List.set_cons_zero, List.set_cons_succ]
      refine lex_sub 3 3 _ _ (((decAll G ts k) (ts k).id).getD 0) 1 rfl rfl rfl rfl ?_
      simp only [Act.put, List.setIfInBounds_toArray, List.set_cons_zero, List.set_cons_succ]
      rw [← HG.out]
      refine lex_entry 81 _ _ (.map (some gW)) (.agg (idc (ts k).id).toArray) (.tuple #[v0, goInt st]) W2 (by kernel_rfl) rfl rfl rfl rfl H4.out.2.1 hS2 ?_
      simp only [Act.put, List.setIfInBounds_toArray, List.set_cons_zero, List.set_cons_succ]
      refine lex_extract _ 1 #[v0, goInt st] (goInt st) rfl rfl rfl rfl ?_
      simp only [Act.put, List.setIfInBounds_toArray, List.set_cons_zero, List.set_cons_succ]
      refine lex_estoreZ 81 _ _ _ (.map (some gW)) (goInt st) (.int .i64 (decN (decAll G ts k) (ts k).id)) W3 (by kernel_rfl) (by kernel_rfl) rfl rfl rfl rfl rfl H4.out.2.2 ?_
      simp only [Act.put, List.setIfInBounds_toArray, List.set_cons_zero, List.set_cons_succ]
      refine lex_nil (NoPanic.normal ?_)
      clear H4 hc2A hidS hS2 HG
      go_upto_region 7 with fail
      have hV7 : MapV W3.drew gW (updF (intF (decAll G ts k)) (ts k).id (some (.int .i64 (decN (decAll G ts k) (ts k).id)))) (addK K1 (ts k).id) := H3.out.1
      have hlk7 := hV7.look (T := 81) Trym.underlying81 zero3 hlx
      rw [show updF (intF (decAll G ts k)) (ts k).id (some (.int .i64 (decN (decAll G ts k) (ts k).id))) (ts k).id = some (.int .i64 (decN (decAll G ts k) (ts k).id)) from if_pos rfl, Option.getD_some] at hlk7
      refine wp_region_lex (fun w' => w'.cell? ⟨ob, 2, none⟩ = some (.map (some gW)) ∧ w'.rangeAt wr.heap.size 0 (idc (ts k).id)) (by kernel_rfl) (by kernel_rfl) hS3 ?_
      refine lex_mv (.pointer (some ⟨ob, 0, none⟩)) _ rfl rfl rfl ?_
      simp only [Act.put, List.setIfInBounds_toArray, List.set_cons_zero, List.set_cons_succ]
      refine lex_nilc _ ⟨ob, 0, none⟩ rfl rfl rfl ?_
      refine lex_field 83 _ 2 ob 0 2 _ _ rfl rfl rfl Trym.underlying83 rfl i81 rfl ?_
      simp only [Act.put, List.setIfInBounds_toArray, List.set_cons_zero, List.set_cons_succ]
      refine lex_load1 81 _ ob 2 (.map (some gW)) rfl rfl rfl (fun _ h => h.1) (fun w => Trym.isAgg81 w) ?_
      simp only [Act.put, List.setIfInBounds_toArray, List.set_cons_zero, List.set_cons_succ]
      refine lex_field 91 _ 0 wr.heap.size 0 0 _ _ rfl rfl rfl Trym.underlying91 rfl i70 rfl ?_
      simp only [Act.put, List.setIfInBounds_toArray, List.set_cons_zero, List.set_cons_succ]
      refine lex_load 70 _ wr.heap.size 0 (idc (ts k).id) _ rfl rfl rfl (fun _ h => h.2) Trym.underlying70 rfl (by rw [i70, idc_length, hlx]) ?_
      simp only [Act.put, List.setIfInBounds_toArray, List.set_cons_zero, List.set_cons_succ]
      refine lex_looks 81 _ _ false (.map (some gW)) (.agg (idc (ts k).id).toArray) (.int .i64 (decN (decAll G ts k) (ts k).id)) (by kernel_rfl) rfl rfl rfl rfl hlk7 hS3 ?_
      simp only [Act.put, List.setIfInBounds_toArray, List.set_cons_zero, List.set_cons_succ]
      refine lex_eqi 3 3 _ _ (decN (decAll G ts k) (ts k).id) 0 rfl rfl rfl rfl Trym.underlying3 ?_
      simp only [Act.put, List.setIfInBounds_toArray, List.set_cons_zero, List.set_cons_succ]
      refine lex_nil (NoPanic.normal ?_)
      clear hlk7 hV7
      have hmm : (addK K1 (ts k).id).length ≤ m + (k + 1) := by
        have h1 := addK_le K1 (ts k).id
        have h2 := HS.out.2.2.2
        omega
      cases hq : (decN (decAll G ts k) (ts k).id == 0) with
      | false =>
        have hne : decN (decAll G ts k) (ts k).id ≠ 0 := by simpa using hq
        have HF : Hid (MapI W3.drew gW (decAll G ts (k + 1)) (m + (k + 1))) := hide ⟨addK K1 (ts k).id, by rw [show decAll G ts (k + 1) = decG (decAll G ts k) (ts k).id from rfl, ← intF_keep hne]; exact H3.out.1, hmm⟩
        clear hq hne hmm HS hS3 hmk
        go_wp2
        go_roundw
        case rel => exact ⟨k + 1, by omega, by go_num, H3.out.2.1, HF.out, H3.out.2.2.drew⟩
        case measure => simp [intOf]; omega
      | true =>
        have heq : decN (decAll G ts k) (ts k).id = 0 := by simpa using hq
        go_upto_region 8 with fail
        have hV8 : MapV W3.drew.drew gW (updF (intF (decAll G ts k)) (ts k).id (some (.int .i64 (decN (decAll G ts k) (ts k).id)))) (addK K1 (ts k).id) := H3.out.1
        obtain ⟨W4, hdel4, hV4, ht4⟩ := hV8.drop (T := 81) Trym.underlying81 hlx 0
        have hK4 : KpB W3.drew.drew W4 [gW] := KpB.turned ht4 (by simp)
        have hS4 := And.intro (hK4.cell (v := .map (some gW)) (p := ⟨ob, 2, none⟩) hS3.1 hobw) (hK4.range hS3.2 hpb)
        have hB4 : MapV W4 gB (updF F base none) (delK KB base) := hK4.map (w := W3.drew.drew) H3.out.2.1 (by simp [hgg])
        have hKw4 : KpB w W4 [gB, gW] := H3.out.2.2.drew.drew.trans (hK4.mono (by simp))
        have HF : Hid (MapI W4 gW (decAll G ts (k + 1)) (m + (k + 1)) ∧ MapV W4 gB (updF F base none) (delK KB base) ∧ KpB w W4 [gB, gW]) := hide ⟨⟨delK (addK K1 (ts k).id) (ts k).id, by rw [show decAll G ts (k + 1) = decG (decAll G ts k) (ts k).id from rfl, ← intF_strike heq]; exact hV4, Nat.le_trans (delK_le _ _) hmm⟩, hB4, hKw4⟩
        have HE4 := hide hdel4
        clear hq hmm HS hmk hV8 hV4 ht4 hB4 hKw4 heq hdel4 hK4
        refine wp_region_lex (fun w' => w'.cell? ⟨ob, 2, none⟩ = some (.map (some gW)) ∧ w'.rangeAt wr.heap.size 0 (idc (ts k).id)) (by kernel_rfl) (by kernel_rfl) hS3 ?_
        refine lex_mv (.pointer (some ⟨ob, 0, none⟩)) _ rfl rfl rfl ?_
        simp only [Act.put, List.setIfInBounds_toArray, List.set_cons_zero, List.set_cons_succ]
        refine lex_nilc _ ⟨ob, 0, none⟩ rfl rfl rfl ?_
        refine lex_field 83 _ 2 ob 0 2 _ _ rfl rfl rfl Trym.underlying83 rfl i81 rfl ?_
        simp only [Act.put, List.setIfInBounds_toArray, List.set_cons_zero, List.set_cons_succ]
        refine lex_load1 81 _ ob 2 (.map (some gW)) rfl rfl rfl (fun _ h => h.1) (fun w => Trym.isAgg81 w) ?_
        simp only [Act.put, List.setIfInBounds_toArray, List.set_cons_zero, List.set_cons_succ]
        refine lex_field 91 _ 0 wr.heap.size 0 0 _ _ rfl rfl rfl Trym.underlying91 rfl i70 rfl ?_
        simp only [Act.put, List.setIfInBounds_toArray, List.set_cons_zero, List.set_cons_succ]
        refine lex_load 70 _ wr.heap.size 0 (idc (ts k).id) _ rfl rfl rfl (fun _ h => h.2) Trym.underlying70 rfl (by rw [i70, idc_length, hlx]) ?_
        simp only [Act.put, List.setIfInBounds_toArray, List.set_cons_zero, List.set_cons_succ]
        refine lex_delete 81 70 _ _ (.map (some gW)) (.agg (idc (ts k).id).toArray) (.tuple #[]) W4 (by kernel_rfl) rfl rfl rfl rfl HE4.out hS4 ?_
        simp only [Act.put, List.setIfInBounds_toArray, List.set_cons_zero, List.set_cons_succ]
        refine lex_nil (NoPanic.normal ?_)
        clear HE4 hS4 hS3
        go_wp2
        go_roundw
        case rel => exact ⟨k + 1, by omega, by go_num, HF.out.2.1, HF.out.1, HF.out.2.2⟩
        case measure => simp [intOf]; omega
    · have : k = n := by omega
      subst this
      have HW := hide (And.intro hB (And.intro hW hKp))
      clear hB hW hKp
      go_wp2
      go_ret
      exact ⟨rfl, HW.out.1, HW.out.2.1, HW.out.2.2⟩

end Go.Proofs.Qxb6601415aMods
