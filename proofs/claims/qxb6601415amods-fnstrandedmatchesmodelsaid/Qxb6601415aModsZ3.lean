import Derived.Test.Qxb6601415aModsZ2
import Derived.Deep.CutRange
namespace Go.Proofs.Qxb6601415aMods
open Go.RowKit Go.Extern.Stop Go.Maps Go.ChangeMaps
set_option linter.unusedVariables false
set_option linter.unusedSimpArgs false
set_option maxRecDepth 20000
attribute [local irreducible] Lex

/-- The slice that 'o.bases' starts as. -/
def StartB (w : World) (n : Nat) (ids : Nat → List UInt8) (bv : Value) (B : Nat) : Prop := (bv = .slice none 0 0 ∧ n = 0) ∨ ∃ gs, B ≤ gs ∧ bv = .slice (some ⟨gs, 0, none⟩) n n ∧ WB w gs 70 (n * 20) ∧ WRow w gs 0 n 20 (fun i => idc (ids i))
theorem StartB.keep {w w' : World} {n : Nat} {ids : Nat → List UInt8} {bv : Value} {B : Nat} (h : StartB w n ids bv B) (hB : Below w.heap.size w w') : StartB w' n ids bv B := by
  rcases h with h | ⟨gs, h1, h2, h3, h4⟩
  · exact .inl h
  · exact .inr ⟨gs, h1, h2, h3.below hB h3.lt, h4.below hB h3.lt⟩
theorem StartB.mono {w : World} {n : Nat} {ids : Nat → List UInt8} {bv : Value} {B B' : Nat} (h : StartB w n ids bv B) (hB : B' ≤ B) : StartB w n ids bv B' := by
  rcases h with h | ⟨gs, h1, h2⟩
  · exact .inl h
  · exact .inr ⟨gs, Nat.le_trans hB h1, h2⟩

theorem idsIn_any (v : Value) (n : Nat) (ids : Nat → List UInt8) (w : World) (hn : n ≤ 4096) (h : IdsV w v n ids) :
    Calls Trym.prog 31 #[v] w fun e w' => ∃ bv, e = .returned bv ∧ StartB w' n ids bv w.heap.size ∧ NilAs bv v ∧ Below w.heap.size w w' := by
  obtain ⟨⟨rfl, rfl⟩ | ⟨b, off, cap, rfl, hr⟩, hl⟩ := h
  · exact (idsIn_nil w).mono fun e w' ⟨he, hw⟩ => ⟨_, he, .inl ⟨rfl, rfl⟩, Iff.rfl, hw ▸ Below.refl _ _⟩
  · exact (idsIn_some b off n cap _ w hn (fun i hi => by rw [idc_length, hl i hi]) (fun i _ => idc_one _) hr).mono fun e w' ⟨he, hwb, hr', hB⟩ => ⟨_, he, .inr ⟨_, Nat.le_refl _, rfl, hwb, hr'⟩, by simp [NilAs], hB⟩

theorem MapV.alloc {w : World} {g : Nat} {F : List UInt8 → Option Value} {K : List (List UInt8)} (h : MapV w g F K) (o : Obj) : MapV (w.alloc o) g F K := h.keep (Below.heap_alloc w o g h.lt)
theorem MapV.next {w w' : World} {g : Nat} {F : List UInt8 → Option Value} {K : List (List UInt8)} (h : MapV w g F K) (hB : Below w.heap.size w w') : MapV w' g F K := h.below hB h.lt

/-- What the first statement makes. -/
structure Made (w : World) (n : Nat) (ids : Nat → List UInt8) (vi : Value) (o : Value) (wx : World) (ob gB gW : Nat) (bv : Value) : Prop where
  oe : o = .pointer (some ⟨ob, 0, none⟩)
  c0 : wx.cell? ⟨ob, 0, none⟩ = some (.map (some gB))
  c1 : wx.cell? ⟨ob, 1, none⟩ = some bv
  c2 : wx.cell? ⟨ob, 2, none⟩ = some (.map (some gW))
  f1 : wx.frozen? ⟨ob, 1, none⟩ = false
  mB : MapV wx gB (fun _ => none) []
  mW : MapV wx gW (fun _ => none) []
  ne : gB ≠ gW
  st : StartB wx n ids bv w.heap.size
  nilb : NilAs bv vi
  loB : w.heap.size ≤ gB
  loW : w.heap.size ≤ gW
  lt : gB < ob ∧ gW < ob
  ltb : ∀ g, bv.ownBlock = some g → g < ob
  last : wx.heap.size = ob + 1
  kept : Below w.heap.size w wx

theorem made_box {w V : World} {n : Nat} {ids : Nat → List UInt8} {vi bv : Value} {gB gW : Nat} (hB : MapV V gB (fun _ => none) []) (hW : MapV V gW (fun _ => none) []) (hne : gB ≠ gW) (hst : StartB V n ids bv w.heap.size) (hnil : NilAs bv vi) (h1 : w.heap.size ≤ gB) (h2 : w.heap.size ≤ gW) (hk : Below w.heap.size w V) :
    Made w n ids vi (.pointer (some ⟨V.heap.size, 0, none⟩)) (V.alloc (.cells #[.map (some gB), bv, .map (some gW), .map none] 83)) V.heap.size gB gW bv := by
  have hrow : (V.alloc (.cells #[.map (some gB), bv, .map (some gW), .map none] 83)).rangeAt V.heap.size 0 [.map (some gB), bv, .map (some gW), .map none] := rangeAt_new V [.map (some gB), bv, .map (some gW), .map none] 83
  have hwb : WB (V.alloc (.cells #[.map (some gB), bv, .map (some gW), .map none] 83)) V.heap.size 83 4 := WB_new _ _ _ rfl
  have hal : Below V.heap.size V (V.alloc (.cells #[.map (some gB), bv, .map (some gW), .map none] 83)) := (Below.refl _ _).alloc (Nat.le_refl _) _
  exact ⟨rfl, rangeAt_head hrow, rangeAt_head (rangeAt_tail hrow), rangeAt_head (rangeAt_tail (rangeAt_tail hrow)), (hwb.there (o := 1) (c := 1) (by omega) 0 (by omega)).2, hB.alloc _, hW.alloc _, hne, hst.keep hal, hnil, h1, h2, ⟨hB.lt, hW.lt⟩, fun g hg => by
    rcases hst with ⟨rfl, _⟩ | ⟨gs, _, rfl, hwb, _⟩
    · simp [Value.ownBlock] at hg
    · simp [Value.ownBlock] at hg
      subst hg
      exact hwb.lt, by simp, hk.trans (hal.mono hk.size)⟩

theorem make_map {T K E : TypeId} (ht : Trym.prog.underlying T = some (.map K E)) (n : Int) (w : World) : (Instr.makeMap T (some (.int .i64 n))).run Trym.prog w = .ok (.map (some w.heap.size)) (w.alloc (.map #[] 0)) := by
  simp [Instr.makeMap, run_underlying ht, asInt, asIntOf, Sem.run_bind]

theorem build83 (gB gW : Nat) (a : Option Addr) (n c : Nat) (w : World) : (Instr.build 83 #[(0, .map (some gB)), (1, .slice a n c), (2, .map (some gW))]).run Trym.prog w = .ok (.agg #[.map (some gB), .slice a n c, .map (some gW), .map none]) w := run_build w 83 _ _ (by kernel_rfl)
theorem StartB.form {w : World} {n : Nat} {ids : Nat → List UInt8} {bv : Value} {B : Nat} (h : StartB w n ids bv B) : ∃ a c, bv = .slice a n c := by
  rcases h with ⟨rfl, rfl⟩ | ⟨gs, _, rfl, _⟩
  · exact ⟨_, _, rfl⟩
  · exact ⟨_, _, rfl⟩

abbrev em : Obj := .map #[] 0
theorem bel1 (w : World) : Below w.heap.size w (w.alloc em).drew := ((Below.refl _ _).alloc (Nat.le_refl _) _).drew
theorem bel2 (w : World) : Below w.heap.size w ((w.alloc em).alloc em).drew := (((Below.refl _ _).alloc (Nat.le_refl _) _).alloc (by simp) _).drew
theorem made1 {w w1 : World} {n : Nat} {ids : Nat → List UInt8} {vi bv : Value} (hB1 : Below (w.alloc em).drew.heap.size (w.alloc em).drew w1) (hst : StartB w1 n ids bv (w.alloc em).drew.heap.size) (hnil : NilAs bv vi) :
    MapV (w1.alloc em) w.heap.size (fun _ => none) [] ∧ MapV (w1.alloc em) w1.heap.size (fun _ => none) [] ∧ w.heap.size ≠ w1.heap.size ∧ StartB (w1.alloc em) n ids bv w.heap.size ∧ w.heap.size ≤ w1.heap.size ∧ Below w.heap.size w (w1.alloc em) := by
  have h1 : Below w.heap.size w w1 := (bel1 w).trans (hB1.mono (by simp [World.drew]))
  have hs : w.heap.size + 1 ≤ w1.heap.size := by have := hB1.size; simpa using this
  exact ⟨(MapV.next (w := (w.alloc em).drew) (MapV.new w) hB1).alloc _, MapV.new w1, by omega, (hst.keep ((Below.refl _ _).alloc (Nat.le_refl _) _)).mono (by simp [World.drew]), h1.size, h1.alloc h1.size _⟩
theorem made2 {w w1 : World} {n : Nat} {ids : Nat → List UInt8} {vi bv : Value} (hB1 : Below ((w.alloc em).alloc em).drew.heap.size ((w.alloc em).alloc em).drew w1) (hst : StartB w1 n ids bv ((w.alloc em).alloc em).drew.heap.size) (hnil : NilAs bv vi) :
    MapV w1 w.heap.size (fun _ => none) [] ∧ MapV w1 (w.heap.size + 1) (fun _ => none) [] ∧ StartB w1 n ids bv w.heap.size ∧ Below w.heap.size w w1 := by
  have h1 : Below w.heap.size w w1 := (bel2 w).trans (hB1.mono (by simp [World.drew]; omega))
  refine ⟨MapV.next (w := ((w.alloc em).alloc em).drew) ((MapV.new w).alloc em) hB1, MapV.next (w := ((w.alloc em).alloc em).drew) ?_ hB1, hst.mono (by simp [World.drew]; omega), h1⟩
  have := MapV.new (w.alloc em)
  rw [World.size_alloc] at this
  exact this
theorem made3 {w w1 : World} {n : Nat} {ids : Nat → List UInt8} {vi bv : Value} (hB1 : Below w.drew.heap.size w.drew w1) (hst : StartB w1 n ids bv w.drew.heap.size) (hnil : NilAs bv vi) :
    MapV ((w1.alloc em).alloc em) w1.heap.size (fun _ => none) [] ∧ MapV ((w1.alloc em).alloc em) (w1.heap.size + 1) (fun _ => none) [] ∧ StartB ((w1.alloc em).alloc em) n ids bv w.heap.size ∧ w.heap.size ≤ w1.heap.size ∧ Below w.heap.size w ((w1.alloc em).alloc em) := by
  have h1 : Below w.heap.size w w1 := (Below.refl _ w).drew.trans hB1
  refine ⟨(MapV.new w1).alloc em, ?_, hst.keep (((Below.refl _ _).alloc (Nat.le_refl _) _).alloc (by simp) _), h1.size, (h1.alloc h1.size _).alloc (by simp; have := h1.size; omega) _⟩
  have := MapV.new (w1.alloc em)
  rw [World.size_alloc] at this
  exact this

section
variable {P : Program} {ops : Array Oper} {Q : Exit → Act → World → Prop} {S : World → Prop} {pl : Bool} {k : Nat} {o : Oper} {rest : List Oper} {a : Act} {w : World}
/-- A store of one cell. -/
theorem lex_store1 (ty : TypeId) (x y : Operand) (b off : Nat) (v : Value) (hs : (pl || soleAt ops k) = true) (hw : Region.wanted o (yielded ops a.tmps) = true) (ho : o.op = .store ty x y) (hx : a.eval x = .pointer (some ⟨b, off, none⟩)) (hy : a.eval y = v)
    (hv : v.cells = #[v]) (h1 : v.oneCell' = true) (hi : (P.info? ty).map (·.size) = some 1) (ht : w.there b off 1) (hS : S (w.setCells b off [v])) (h : Lex P pl ops Q S (k + 1) rest (a.put o.dst undef) (w.setCells b off [v])) : Lex P pl ops Q S k (o :: rest) a w := by
  have hst : (storeCells ⟨b, off, none⟩ [v]).run P w = .ok () (w.setCells b off [v]) := by
    have := run_storeCells_cells (P := P) b off [v] 0 w (fun j hj => by simpa using (ht j (by simpa using hj)).1) (fun j hj => by simpa using (ht j (by simpa using hj)).2) (fun u hu => by simp at hu; rw [hu]; exact h1)
    simpa using this
  refine lex_dou _ hs hw ?_ hS h
  unfold execOp
  simp [ho, hx, hy, Instr.storeAt, Instr.sureAddr, storeVar, hv, run_sizeOf hi, hst]
theorem lex_load1x (ty : TypeId) (x : Operand) (b off : Nat) (v : Value) (hs : (pl || soleAt ops k) = true) (hw : Region.wanted o (yielded ops a.tmps) = true) (ho : o.op = .load ty x) (hx : a.eval x = .pointer (some ⟨b, off, none⟩))
    (hc : w.cell? ⟨b, off, none⟩ = some v) (hg : ∀ w, (isAgg ty).run P w = .ok false w) (hS : S w)
    (h : Lex P pl ops Q S (k + 1) rest (a.put o.dst v) w) : Lex P pl ops Q S k (o :: rest) a w :=
  lex_do _ w hs hw (by
    unfold execOp
    simp only [ho, hx]
    simp [go_sem, hg w, hc]) hS h
end

theorem findId_lt {ids : Nat → List UInt8} {x : List UInt8} : ∀ {n i : Nat}, findId ids x n = some i → i < n ∧ ids i = x
  | 0, i, h => by simp [findId] at h
  | n + 1, i, h => by
    rw [findId] at h
    cases hq : findId ids x n with
    | some j =>
      rw [hq] at h
      simp at h
      subst h
      have := findId_lt hq
      exact ⟨by omega, this.2⟩
    | none =>
      rw [hq] at h
      by_cases e : ids n == x
      · simp [e] at h
        subst h
        exact ⟨by omega, by simpa using e⟩
      · simp [e] at h
theorem findId_none {ids : Nat → List UInt8} {x : List UInt8} : ∀ {n : Nat}, (∀ i, i < n → ids i ≠ x) → findId ids x n = none
  | 0, _ => rfl
  | n + 1, h => findId_none_succ (findId_none (fun i hi => h i (by omega))) (by simpa using h n (by omega))
theorem findId_at {ids : Nat → List UInt8} {n i : Nat} (ha : Apart ids n) (hi : i < n) : findId ids (ids i) n = some i :=
  findId_some (findId_none (fun j hj => (ha i j hj hi).symm)) (by simp) n hi
theorem findId_succ_at {ids : Nat → List UInt8} {n k : Nat} (ha : Apart ids n) (hk : k < n) : findId ids (ids k) (k + 1) = some k :=
  findId_some (findId_none (fun j hj => (ha k j hj hk).symm)) (by simp) (k + 1) (by omega)
theorem findId_succ_ne {ids : Nat → List UInt8} {k : Nat} {y : List UInt8} (h : y ≠ ids k) : findId ids y (k + 1) = findId ids y k := by
  rw [findId]
  have : (ids k == y) = false := by simpa using fun e => h e.symm
  simp [this]
theorem find_step {ids : Nat → List UInt8} {n k : Nat} (ha : Apart ids n) (hk : k < n) (f : Nat → Value) (v : Value) :
    updF (fun x => (findId ids x k).map f) (ids k) (some v) = fun x => (findId ids x (k + 1)).map (fun i => if i = k then v else f i) := by
  funext y
  unfold updF
  by_cases e : y = ids k
  · rw [if_pos e, e, findId_succ_at ha hk]; simp
  · rw [if_neg e, findId_succ_ne e]
    dsimp only
    cases hq : findId ids y k with
    | none => rfl
    | some i =>
      have := (findId_lt hq).1
      simp [show i ≠ k by omega]
theorem find_stepI {ids : Nat → List UInt8} {n k : Nat} (ha : Apart ids n) (hk : k < n) (f : Nat → Int) :
    updF (intF (fun x => (findId ids x k).map f)) (ids k) (some (.int .i64 (f k))) = intF (fun x => (findId ids x (k + 1)).map f) := by
  funext y
  unfold updF intF
  by_cases e : y = ids k
  · dsimp only; rw [if_pos e, e, findId_succ_at ha hk]; rfl
  · dsimp only; rw [if_neg e, findId_succ_ne e]

/-- The trees of a base. -/
def T0 (bid : Nat → List UInt8) (nb : Nat) (tn : Nat → Nat) (tt : Nat → Nat → Tr) (x : List UInt8) : List Tr := match findId bid x nb with | some i => (List.range (tn i)).map (tt i) | none => []
def G0 (wid : Nat → List UInt8) (wn : Nat → Int) (nw : Nat) (x : List UInt8) : Option Int := (findId wid x nw).map wn
theorem trl_range (f : Nat → Tr) {m i : Nat} (h : i < m) : trl ((List.range m).map f) i = f i := by simp [trl, List.getD_eq_getElem?_getD, h]
theorem TreesV.congr {w : World} {v : Value} {n : Nat} {ts ts' : Nat → Tr} (h : TreesV w v n ts) (e : ∀ i, i < n → ts i = ts' i) : TreesV w v n ts' := by
  refine ⟨?_, fun i hi => e i hi ▸ h.2 i hi⟩
  rcases h.1 with h1 | ⟨b, off, cap, h1, hr⟩
  · exact .inl h1
  · exact .inr ⟨b, off, cap, h1, fun i hi => by
      show World.rangeAt _ _ _ (trc (ts' i))
      rw [← e i hi]; exact hr i hi⟩
theorem Kept.kp {w w' : World} {k B : Nat} {S : List Nat} {tv' tv : Nat → Value} {tn : Nat → Nat} {tt : Nat → Nat → Tr} (h : Kept w k B tv' tv tn tt) (hk : KpB w w' S) (hS : ∀ x ∈ S, x < B) : Kept w' k B tv' tv tn tt :=
  fun i hi => ⟨(h i hi).1.kp hk (NotIn.of_fresh (h i hi).2.2 hS), (h i hi).2⟩

/-- Is x a base with nothing waiting? -/
def selP (bid : Nat → List UInt8) (nb : Nat) (wid : Nat → List UInt8) (wn : Nat → Int) (nw : Nat) (x : List UInt8) : Bool := (findId bid x nb).isSome && (waitN wid wn nw x == 0)
theorem G0_get (wid : Nat → List UInt8) (wn : Nat → Int) (nw : Nat) (x : List UInt8) : (G0 wid wn nw x).getD 0 = waitN wid wn nw x := by
  unfold G0 waitN
  cases findId wid x nw <;> rfl
theorem sel_eq (bid : Nat → List UInt8) (nb : Nat) (tv2 : Nat → Value) (wid : Nat → List UInt8) (wn : Nat → Int) (nw : Nat) : sel (fun x => (findId bid x nb).map tv2) (G0 wid wn nw) = selP bid nb wid wn nw := by
  funext x
  unfold sel selP
  rw [Option.isSome_map, G0_get]
/-- The bases that are listed and are taken, and what is taken. -/
def L1of (bid : Nat → List UInt8) (nb : Nat) (wid : Nat → List UInt8) (wn : Nat → Int) (nw : Nat) (ids : Nat → List UInt8) (n : Nat) : List (List UInt8) := (idl ids n).filter (selP bid nb wid wn nw)
def Rof (bid : Nat → List UInt8) (nb : Nat) (tn : Nat → Nat) (tt : Nat → Nat → Tr) (wid : Nat → List UInt8) (wn : Nat → Int) (nw : Nat) (ids : Nat → List UInt8) (n : Nat) : List Tr := (gath (T0 bid nb tn tt) (L1of bid nb wid wn nw ids n)).2
/-- Is x a base that is left? -/
def inB (bid : Nat → List UInt8) (nb : Nat) (wid : Nat → List UInt8) (wn : Nat → Int) (nw : Nat) (ids : Nat → List UInt8) (n : Nat) (x : List UInt8) : Bool := (findId bid x nb).isSome && !decide (x ∈ L1of bid nb wid wn nw ids n)
theorem without_some (bid : Nat → List UInt8) (nb : Nat) (tn : Nat → Nat) (tt : Nat → Nat → Tr) (wid : Nat → List UInt8) (wn : Nat → Int) (nw : Nat) (ids : Nat → List UInt8) (n : Nat) (tv2 : Nat → Value) (x : List UInt8) :
    (without (fun x => (findId bid x nb).map tv2) (gath (T0 bid nb tn tt) (L1of bid nb wid wn nw ids n)).1 x).isSome = inB bid nb wid wn nw ids n x := by
  unfold without inB
  by_cases h : x ∈ L1of bid nb wid wn nw ids n
  · rw [if_pos ((gath_mem _ _ _).2 h)]; simp [h]
  · rw [if_neg (fun h2 => h ((gath_mem _ _ _).1 h2))]; simp [h]

/-- What 'ZZB1Stranded' answers. -/
structure ZZ (bid : Nat → List UInt8) (nb : Nat) (tv : Nat → Value) (tn : Nat → Nat) (tt : Nat → Nat → Tr) (wid : Nat → List UInt8) (wn : Nat → Int) (nw : Nat) (ids : Nat → List UInt8) (n : Nat) (vi : Value) (pid : Nat → List UInt8) (np : Nat) (w' : World) (got ba bi bt bl wi wN wl : Value) : Prop where
  hgot : TreesV w' got (Rof bid nb tn tt wid wn nw ids n).length (trl (Rof bid nb tn tt wid wn nw ids n))
  hgotnil : got = nilS ↔ Rof bid nb tn tt wid wn nw ids n = []
  hba : IdsV w' ba ((idl ids n).filter (inB bid nb wid wn nw ids n)).length (lid ((idl ids n).filter (inB bid nb wid wn nw ids n)))
  hbanil : NilAs ba vi
  hbi : ∃ g, bi = .slice (some ⟨g, 0, none⟩) nb nb ∧ ∀ i, i < nb → w'.cell? ⟨g, i, none⟩ = some (.bool (inB bid nb wid wn nw ids n (bid i)))
  hbt : ∃ (g : Nat) (btv : Nat → Value), bt = .slice (some ⟨g, 0, none⟩) nb nb ∧ ∀ i, i < nb → w'.cell? ⟨g, i, none⟩ = some (btv i) ∧ (inB bid nb wid wn nw ids n (bid i) = true → TreesV w' (btv i) (tn i) (tt i) ∧ NilAs (btv i) (tv i)) ∧ (inB bid nb wid wn nw ids n (bid i) = false → btv i = nilS)
  hbl : ∃ K : List (List UInt8), bl = .int .i64 (K.length : Int) ∧ K.Nodup ∧ (∀ x ∈ K, x.length = 20) ∧ ∀ x, x.length = 20 → (x ∈ K ↔ inB bid nb wid wn nw ids n x = true)
  hwi : ∃ g, wi = .slice (some ⟨g, 0, none⟩) np np ∧ ∀ i, i < np → w'.cell? ⟨g, i, none⟩ = some (.bool (decL (G0 wid wn nw) (Rof bid nb tn tt wid wn nw ids n) (pid i)).isSome)
  hwN : ∃ g, wN = .slice (some ⟨g, 0, none⟩) np np ∧ ∀ i, i < np → w'.cell? ⟨g, i, none⟩ = some (.int .i64 ((decL (G0 wid wn nw) (Rof bid nb tn tt wid wn nw ids n) (pid i)).getD 0))
  hwl : ∃ K : List (List UInt8), wl = .int .i64 (K.length : Int) ∧ K.Nodup ∧ (∀ x ∈ K, x.length = 20) ∧ ∀ x, x.length = 20 → (x ∈ K ↔ (decL (G0 wid wn nw) (Rof bid nb tn tt wid wn nw ids n) x).isSome = true)

theorem MapV.keys {w : World} {g : Nat} {F : List UInt8 → Option Value} {K : List (List UInt8)} (h : MapV w g F K) : K.Nodup ∧ (∀ x ∈ K, x.length = 20) ∧ ∀ x, x.length = 20 → (x ∈ K ↔ (F x).isSome = true) := by
  obtain ⟨D, _, _, h1, h2, h3⟩ := h
  exact ⟨h1, h2, fun x hx => (h3 x hx).2.1⟩
theorem f4 : (Trym.prog.info? 4).map (fun i => (i.zero.isSome, i.size, i.bytes)) = some (true, 1, 1) := by kernel_rfl
theorem f49 : (Trym.prog.info? 49).map (fun i => (i.zero.isSome, i.size, i.bytes)) = some (true, 1, 24) := by kernel_rfl
theorem f3 : (Trym.prog.info? 3).map (fun i => (i.zero.isSome, i.size, i.bytes)) = some (true, 1, 8) := by kernel_rfl

end Go.Proofs.Qxb6601415aMods
