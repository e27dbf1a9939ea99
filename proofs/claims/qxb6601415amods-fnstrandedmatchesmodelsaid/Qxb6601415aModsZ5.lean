import Derived.Test.Qxb6601415aModsZ4
namespace Go.Proofs.Qxb6601415aMods
open Go.RowKit Go.Extern.Stop Go.Maps Go.ChangeMaps
set_option linter.unusedVariables false
set_option linter.unusedSimpArgs false

section
variable (bid : Nat → List UInt8) (nb : Nat) (tn : Nat → Nat) (tt : Nat → Nat → Tr) (wid : Nat → List UInt8) (wn : Nat → Int) (nw : Nat) (ids : Nat → List UInt8) (n : Nat)

/-- The model's 'taken'. -/
def tk (i : Nat) : Bool := (waitN wid wn nw (bid i) == 0) && hasId ids (bid i) n
/-- The model's step at ids i. -/
def wstep (i : Nat) : List Tr := if hasId ids (ids i) i then [] else match findId bid (ids i) nb with | some j => if tk bid wid wn nw ids n j then (List.range (tn j)).map (tt j) else [] | none => []
def wantL : Nat → List Tr
  | 0 => []
  | i + 1 => wantL i ++ wstep bid nb tn tt wid wn nw ids n i
def leftN : Nat → Nat
  | 0 => 0
  | i + 1 => leftN i + (if tk bid wid wn nw ids n i then 0 else 1)
end

theorem hasId_iff (ids : Nat → List UInt8) (x : List UInt8) (n : Nat) : hasId ids x n = true ↔ x ∈ idl ids n := by
  simp only [hasId, List.any_eq_true, List.mem_range, beq_iff_eq, idl, List.mem_map]
theorem mem_idl {ids : Nat → List UInt8} {n i : Nat} (h : i < n) : ids i ∈ idl ids n := by simp only [idl, List.mem_map, List.mem_range]; exact ⟨i, h, rfl⟩

section
variable {bid : Nat → List UInt8} {nb : Nat} {tn : Nat → Nat} {tt : Nat → Nat → Tr} {wid : Nat → List UInt8} {wn : Nat → Int} {nw : Nat} {ids : Nat → List UInt8} {n : Nat}

theorem mem_L1 (x : List UInt8) : x ∈ L1of bid nb wid wn nw ids n ↔ x ∈ idl ids n ∧ selP bid nb wid wn nw x = true := List.mem_filter
theorem tk_mem (hab : Apart bid nb) {i : Nat} (hi : i < nb) : tk bid wid wn nw ids n i = true ↔ bid i ∈ L1of bid nb wid wn nw ids n := by
  rw [mem_L1]
  unfold tk selP
  rw [findId_at hab hi, Bool.and_eq_true, hasId_iff]
  simp only [Option.isSome_some, Bool.true_and]
  exact ⟨fun h => ⟨h.2, h.1⟩, fun h => ⟨h.2, h.1⟩⟩
theorem inB_tk (hab : Apart bid nb) {i : Nat} (hi : i < nb) : inB bid nb wid wn nw ids n (bid i) = !tk bid wid wn nw ids n i := by
  unfold inB
  rw [findId_at hab hi]
  simp only [Option.isSome_some, Bool.true_and]
  by_cases h : bid i ∈ L1of bid nb wid wn nw ids n
  · rw [(tk_mem hab hi).2 h]; simp [h]
  · have : tk bid wid wn nw ids n i = false := by
      cases hq : tk bid wid wn nw ids n i with
      | false => rfl
      | true => exact absurd ((tk_mem hab hi).1 hq) h
    rw [this]; simp [h]
/-- At a listed id. -/
theorem inB_ids (hab : Apart bid nb) {i : Nat} (hi : i < n) : inB bid nb wid wn nw ids n (ids i) = match findId bid (ids i) nb with | some j => !tk bid wid wn nw ids n j | none => false := by
  cases hq : findId bid (ids i) nb with
  | none => unfold inB; rw [hq]; rfl
  | some j =>
    obtain ⟨hj, e⟩ := findId_lt hq
    rw [← e, inB_tk hab hj]

theorem gath_parts_from {T : List UInt8 → List Tr} : ∀ (l : List (List UInt8)) (acc : List (List UInt8) × List Tr), acc.1.Nodup → acc.2 = acc.1.flatMap T → (l.foldl (gstep T) acc).1.Nodup ∧ (l.foldl (gstep T) acc).2 = (l.foldl (gstep T) acc).1.flatMap T
  | [], acc, h1, h2 => ⟨h1, h2⟩
  | x :: r, acc, h1, h2 => by
    rw [List.foldl_cons]
    refine gath_parts_from r _ ?_ ?_
    · unfold gstep
      split
      · exact h1
      · rename_i h; exact nodup_snoc h1 h
    · unfold gstep
      split
      · exact h2
      · rw [h2]; simp

theorem want_gath (hab : Apart bid nb) : ∀ i, i ≤ n → wantL bid nb tn tt wid wn nw ids n i = (gath (T0 bid nb tn tt) ((idl ids i).filter (selP bid nb wid wn nw))).2
  | 0, _ => rfl
  | i + 1, hi => by
    rw [wantL, want_gath hab i (by omega), idl_succ, filter_snoc]
    have hn : i < n := by omega
    have hmem : ∀ y, y ∈ (gath (T0 bid nb tn tt) ((idl ids i).filter (selP bid nb wid wn nw))).1 ↔ y ∈ idl ids i ∧ selP bid nb wid wn nw y = true := fun y => by rw [gath_mem, List.mem_filter]
    unfold wstep
    cases hs : selP bid nb wid wn nw (ids i) with
    | false =>
      have hn2 : (match findId bid (ids i) nb with | some j => if tk bid wid wn nw ids n j then (List.range (tn j)).map (tt j) else [] | none => []) = [] := by
        cases hq : findId bid (ids i) nb with
        | none => rfl
        | some j =>
          obtain ⟨hj, e⟩ := findId_lt hq
          have : tk bid wid wn nw ids n j = false := by
            unfold selP at hs
            rw [hq] at hs
            simp only [Option.isSome_some, Bool.true_and] at hs
            unfold tk
            rw [e, hs]
            rfl
          simp [this]
      rw [hn2]
      simp
    | true =>
      simp only [if_true]
      rw [gath_snoc]
      unfold gstep
      by_cases hh : hasId ids (ids i) i = true
      · rw [if_pos hh, if_pos ((hmem _).2 ⟨(hasId_iff _ _ _).1 hh, hs⟩), List.append_nil]
      · rw [if_neg hh, if_neg (fun h => hh ((hasId_iff _ _ _).2 ((hmem _).1 h).1))]
        have hs2 := hs
        unfold selP at hs2
        rw [Bool.and_eq_true] at hs2
        obtain ⟨j, hj⟩ := Option.isSome_iff_exists.1 hs2.1
        obtain ⟨hjl, e⟩ := findId_lt hj
        have htk : tk bid wid wn nw ids n j = true := (tk_mem hab hjl).2 ((mem_L1 _).2 ⟨by rw [e]; exact mem_idl hn, by rw [e]; exact hs⟩)
        simp only [T0, hj, htk, if_true]
theorem want_eq (hab : Apart bid nb) : wantL bid nb tn tt wid wn nw ids n n = Rof bid nb tn tt wid wn nw ids n := want_gath hab n (Nat.le_refl _)

theorem Rof_parts : (gath (T0 bid nb tn tt) (L1of bid nb wid wn nw ids n)).1.Nodup ∧ Rof bid nb tn tt wid wn nw ids n = (gath (T0 bid nb tn tt) (L1of bid nb wid wn nw ids n)).1.flatMap (T0 bid nb tn tt) :=
  gath_parts_from (L1of bid nb wid wn nw ids n) ([], []) (by simp) (by simp)

theorem idl_nodup {f : Nat → List UInt8} : ∀ {m : Nat}, Apart f m → (idl f m).Nodup
  | 0, _ => by simp [idl]
  | m + 1, h => by
    rw [idl_succ]
    refine nodup_snoc (idl_nodup (fun i j hij hi => h i j hij (by omega))) (fun hm => ?_)
    simp only [idl, List.mem_map, List.mem_range] at hm
    obtain ⟨j, hj, e⟩ := hm
    exact h m j hj (by omega) e.symm

theorem left_len (p : List UInt8 → Bool) : ∀ m, m ≤ nb → (∀ i, i < m → p (bid i) = !tk bid wid wn nw ids n i) → ((idl bid m).filter p).length = leftN bid wid wn nw ids n m
  | 0, _, _ => rfl
  | m + 1, hm, h => by
    rw [idl_succ, filter_snoc, leftN, h m (by omega)]
    have ih := left_len p m (by omega) (fun i hi => h i (by omega))
    cases hq : tk bid wid wn nw ids n m <;> simp [ih]

theorem left_eq (hab : Apart bid nb) (hbl : ∀ i, i < nb → (bid i).length = 20) {K : List (List UInt8)} (hn : K.Nodup) (h20 : ∀ x ∈ K, x.length = 20) (hK : ∀ x, x.length = 20 → (x ∈ K ↔ inB bid nb wid wn nw ids n x = true)) : K.length = leftN bid wid wn nw ids n nb := by
  rw [← left_len (inB bid nb wid wn nw ids n) nb (Nat.le_refl _) (fun i hi => inB_tk hab hi)]
  refine List.Perm.length_eq ((List.perm_ext_iff_of_nodup hn ((idl_nodup hab).filter _)).2 (fun x => ?_))
  rw [List.mem_filter]
  constructor
  · intro hx
    have h1 := (hK x (h20 x hx)).1 hx
    refine ⟨?_, h1⟩
    unfold inB at h1
    rw [Bool.and_eq_true] at h1
    obtain ⟨i, hi⟩ := Option.isSome_iff_exists.1 h1.1
    obtain ⟨hil, e⟩ := findId_lt hi
    rw [← e]
    exact mem_idl hil
  · rintro ⟨hx, h1⟩
    simp only [idl, List.mem_map, List.mem_range] at hx
    obtain ⟨i, hi, rfl⟩ := hx
    exact (hK _ (hbl i hi)).2 h1
end

/-! ### The counts -/
def cntT (ts : Nat → Tr) (x : List UInt8) : Nat → Nat
  | 0 => 0
  | t + 1 => cntT ts x t + (if (ts t).id == x then 1 else 0)
section
variable (bid : Nat → List UInt8) (tn : Nat → Nat) (tt : Nat → Nat → Tr) (wid : Nat → List UInt8) (wn : Nat → Int) (nw : Nat) (ids : Nat → List UInt8) (n : Nat)
def kcnt (x : List UInt8) : Nat → Nat
  | 0 => 0
  | e + 1 => kcnt x e + (if tk bid wid wn nw ids n e then cntT (tt e) x (tn e) else 0)
end
theorem cntT_eq (ts : Nat → Tr) (x : List UInt8) : ∀ m, cntT ts x m = ((List.range m).map ts).countP (fun t => t.id == x)
  | 0 => rfl
  | m + 1 => by
    rw [cntT, cntT_eq ts x m, List.range_succ, List.map_append, List.countP_append]
    simp [List.countP_cons]
theorem wrap_sub (a b : Int) : IntKind.i64.wrap (IntKind.i64.wrap a - b) = IntKind.i64.wrap (a - b) := by
  rw [IntKind.wrap_i64, IntKind.wrap_i64, IntKind.wrap_i64]
  omega
/-- What k decrements leave. -/
theorem decL_at (x : List UInt8) : ∀ (l : List Tr) (G : List UInt8 → Option Int), decL G l x = if l.countP (fun t => t.id == x) = 0 then G x else (if IntKind.i64.wrap ((G x).getD 0 - (l.countP (fun t => t.id == x) : Int)) = 0 then none else some (IntKind.i64.wrap ((G x).getD 0 - (l.countP (fun t => t.id == x) : Int))))
  | [], G => by simp [decL]
  | t :: r, G => by
    have h1 : decL G (t :: r) = decL (decG G t.id) r := rfl
    rw [h1, decL_at x r]
    by_cases e : t.id = x
    · have hc : (t :: r).countP (fun t => t.id == x) = r.countP (fun t => t.id == x) + 1 := by simp [List.countP_cons, e]
      rw [hc]
      have hg : (decG G t.id x) = if decN G x = 0 then none else some (decN G x) := by unfold decG; rw [if_pos e.symm, e]
      have hd : (decG G t.id x).getD 0 = decN G x := by
        rw [hg]
        split
        · rename_i h; simp [h]
        · rfl
      rw [if_neg (by omega : ¬ r.countP (fun t => t.id == x) + 1 = 0)]
      by_cases h0 : r.countP (fun t => t.id == x) = 0
      · rw [if_pos h0, h0, hg]
        simp only [Nat.zero_add, Int.natCast_one, Int.cast_ofNat_Int]
        rfl
      · rw [if_neg h0, hd]
        have hw : IntKind.i64.wrap (decN G x - (r.countP (fun t => t.id == x) : Int)) = IntKind.i64.wrap ((G x).getD 0 - ((r.countP (fun t => t.id == x) + 1 : Nat) : Int)) := by
          unfold decN
          rw [wrap_sub]
          congr 1
          omega
        rw [hw]
    · have hc : (t :: r).countP (fun t => t.id == x) = r.countP (fun t => t.id == x) := by simp [List.countP_cons, e]
      have hg : decG G t.id x = G x := by unfold decG; rw [if_neg (fun h => e h.symm)]
      rw [hc, hg]

section
variable {bid : Nat → List UInt8} {nb : Nat} {tn : Nat → Nat} {tt : Nat → Nat → Tr} {wid : Nat → List UInt8} {wn : Nat → Int} {nw : Nat} {ids : Nat → List UInt8} {n : Nat}

theorem L1_bid {x : List UInt8} (h : x ∈ L1of bid nb wid wn nw ids n) : ∃ i, i < nb ∧ bid i = x := by
  have h1 := ((mem_L1 x).1 h).2
  unfold selP at h1
  rw [Bool.and_eq_true] at h1
  obtain ⟨i, hi⟩ := Option.isSome_iff_exists.1 h1.1
  exact ⟨i, findId_lt hi⟩
theorem count_upto (hab : Apart bid nb) (x : List UInt8) : ∀ m, m ≤ nb → (((idl bid m).filter (fun y => decide (y ∈ L1of bid nb wid wn nw ids n))).flatMap (T0 bid nb tn tt)).countP (fun t => t.id == x) = kcnt bid tn tt wid wn nw ids n x m
  | 0, _ => rfl
  | m + 1, hm => by
    have ih := count_upto hab x m (by omega)
    have hm' : m < nb := by omega
    rw [idl_succ, filter_snoc, kcnt]
    have hT : T0 bid nb tn tt (bid m) = (List.range (tn m)).map (tt m) := by unfold T0; rw [findId_at hab hm']
    by_cases h : bid m ∈ L1of bid nb wid wn nw ids n
    · rw [if_pos (by simp [h]), (tk_mem hab hm').2 h, List.flatMap_append, List.countP_append, ih]
      simp only [List.flatMap_cons, List.flatMap_nil, List.append_nil, if_true]
      rw [hT, ← cntT_eq]
    · rw [if_neg (by simp [h]), ih]
      have : tk bid wid wn nw ids n m = false := by
        cases hq : tk bid wid wn nw ids n m with
        | false => rfl
        | true => exact absurd ((tk_mem hab hm').1 hq) h
      simp [this]
theorem kcnt_eq (hab : Apart bid nb) (x : List UInt8) : (Rof bid nb tn tt wid wn nw ids n).countP (fun t => t.id == x) = kcnt bid tn tt wid wn nw ids n x nb := by
  rw [← count_upto hab x nb (Nat.le_refl _), Rof_parts.2]
  refine List.Perm.countP_eq _ (List.Perm.flatMap_right _ ((List.perm_ext_iff_of_nodup Rof_parts.1 ((idl_nodup hab).filter _)).2 (fun y => ?_)))
  rw [gath_mem, List.mem_filter]
  constructor
  · intro h
    obtain ⟨i, hi, rfl⟩ := L1_bid h
    exact ⟨mem_idl hi, by simp [h]⟩
  · rintro ⟨_, h⟩
    simpa using h

/-- The model's words on a count. -/
def wantNum (n0 : Int) (k : Nat) : Int := if k = 0 then n0 else IntKind.i64.wrap (n0 - (k : Int))
def wantStand (in0 : Bool) (n0 : Int) (k : Nat) : Bool := if k = 0 then in0 else (IntKind.i64.wrap (n0 - (k : Int)) != 0)

theorem dec_model (hab : Apart bid nb) (x : List UInt8) :
    (decL (G0 wid wn nw) (Rof bid nb tn tt wid wn nw ids n) x).isSome = wantStand (waitIn wid nw x) (waitN wid wn nw x) (kcnt bid tn tt wid wn nw ids n x nb) ∧
    (decL (G0 wid wn nw) (Rof bid nb tn tt wid wn nw ids n) x).getD 0 = if wantStand (waitIn wid nw x) (waitN wid wn nw x) (kcnt bid tn tt wid wn nw ids n x nb) then wantNum (waitN wid wn nw x) (kcnt bid tn tt wid wn nw ids n x nb) else 0 := by
  rw [decL_at, kcnt_eq hab, G0_get]
  generalize kcnt bid tn tt wid wn nw ids n x nb = k
  unfold wantStand wantNum
  by_cases h : k = 0
  · simp only [if_pos h]
    have h1 : (G0 wid wn nw x).isSome = waitIn wid nw x := by unfold G0 waitIn; rw [Option.isSome_map]
    rw [h1, G0_get]
    refine ⟨rfl, ?_⟩
    unfold waitIn waitN
    cases findId wid x nw <;> rfl
  · simp only [if_neg h]
    by_cases h2 : IntKind.i64.wrap (waitN wid wn nw x - (k : Int)) = 0
    · simp [h2]
    · simp [h2]

def presN (G : List UInt8 → Option Int) (pid : Nat → List UInt8) : Nat → Nat
  | 0 => 0
  | p + 1 => presN G pid p + (if (G (pid p)).isSome then 1 else 0)
theorem pres_len (G : List UInt8 → Option Int) (pid : Nat → List UInt8) : ∀ m, ((idl pid m).filter (fun x => (G x).isSome)).length = presN G pid m
  | 0 => rfl
  | m + 1 => by
    rw [idl_succ, filter_snoc, presN, ← pres_len G pid m]
    cases (G (pid m)).isSome <;> simp
theorem idl_lid (L : List (List UInt8)) : idl (lid L) L.length = L := by
  refine List.ext_getElem? (fun i => ?_)
  unfold idl
  rw [List.getElem?_map]
  by_cases h : i < L.length
  · rw [List.getElem?_range h, List.getElem?_eq_getElem h, Option.map_some, lid_get h]
  · rw [List.getElem?_eq_none (by simpa using h), List.getElem?_eq_none (by omega)]; rfl
theorem pres_eq {L K : List (List UInt8)} (hl : ∀ x ∈ L, x.length = 20) (hL : Listed L 8192 (fun x => InW wid nw x ∨ InT tn tt nb x)) (hn : K.Nodup) (h20 : ∀ x ∈ K, x.length = 20)
    (hK : ∀ x, x.length = 20 → (x ∈ K ↔ (decL (G0 wid wn nw) (Rof bid nb tn tt wid wn nw ids n) x).isSome = true)) :
    K.length = presN (decL (G0 wid wn nw) (Rof bid nb tn tt wid wn nw ids n)) (lid L) L.length := by
  rw [← pres_len, idl_lid]
  refine List.Perm.length_eq ((List.perm_ext_iff_of_nodup hn (hL.nd.filter _)).2 (fun x => ?_))
  rw [List.mem_filter]
  constructor
  · intro hx
    have h1 := (hK x (h20 x hx)).1 hx
    refine ⟨hL.must x ?_, h1⟩
    rw [decL_at] at h1
    split at h1
    · left
      unfold G0 at h1
      rw [Option.isSome_map] at h1
      obtain ⟨i, hi⟩ := Option.isSome_iff_exists.1 h1
      exact ⟨i, findId_lt hi⟩
    · rename_i hc
      right
      have h2 : 0 < (Rof bid nb tn tt wid wn nw ids n).countP (fun t => t.id == x) := Nat.pos_of_ne_zero hc
      obtain ⟨t, ht, he⟩ := List.countP_pos_iff.1 h2
      rw [Rof_parts.2, List.mem_flatMap] at ht
      obtain ⟨y, _, hy⟩ := ht
      unfold T0 at hy
      cases hq : findId bid y nb with
      | none => rw [hq] at hy; simp at hy
      | some i =>
        rw [hq] at hy
        simp only [List.mem_map, List.mem_range] at hy
        obtain ⟨j, hj, rfl⟩ := hy
        exact ⟨i, j, (findId_lt hq).1, hj, by simpa using he⟩
  · rintro ⟨hx, h1⟩
    exact (hK x (hl x hx)).2 h1
end

end Go.Proofs.Qxb6601415aMods
