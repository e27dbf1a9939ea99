import Derived.Test.Qxb6601415aModsC
import Derived.BigQuiet
import Derived.Deep.MidRow
import Derived.Deep.RegionHeld3
import Derived.Deep.Cut
import Derived.Stop.BytesEq
import Derived.DeepKeys
namespace Go.Proofs.Qxb6601415aMods
open Go.RowKit
set_option linter.unusedVariables false

/-! ### A region that draws its order, walked in the order of the text -/

def firsts (n : Nat) : Nat → Array Bool
  | 0 => Array.replicate n false
  | k + 1 => (firsts n k).setIfInBounds k true

/-- At place k, all before it done: it alone may come up. -/
def soleAt (ops : Array Oper) (k : Nat) : Bool := Region.ready .any ops (firsts ops.size k) == [k]

def lexFromH (ops : Array Oper) : Nat → Nat → Array Bool → Bool
  | 0, _, listed => (Region.ready .any ops listed).isEmpty
  | n + 1, k, listed => (Region.ready .any ops listed).contains k && (Region.free .any ops listed k || Region.ready .any ops listed == [k]) && lexFromH ops n (k + 1) (listed.setIfInBounds k true)
def lexBH (ops : Array Oper) : Bool := Region.noSelect ops && lexFromH ops ops.size 0 (Array.replicate ops.size false)

/-- The last operation, if each other one is said to come before it. -/
def barB (ops : Array Oper) (k : Nat) : Bool := (k + 1 == ops.size) && ((ops[k]?).map fun o => (List.range k).all fun i => o.after.any fun e => Region.binds .any e && e.on == i).getD false

/-- The operations in the text's order; S is a condition on worlds that each carried-out operation keeps; pl: the region does not draw. -/
def Lex (P : Program) (pl : Bool) (ops : Array Oper) (Q : Exit → Act → World → Prop) (S : World → Prop) : Nat → List Oper → Act → World → Prop
  | _, [], a, w => Q .normal a w
  | k, o :: rest, a, w =>
    if Region.wanted o (yielded ops a.tmps) = true then
      (∃ v, (∀ w, S w → (execOp a.eval o).run P w = .ok (.value v) w) ∧ Lex P pl ops Q S (k + 1) rest (a.put o.dst v) w)
      ∨ ((pl || soleAt ops k) = true ∧ o.wp P a w (fun a' w' => (barB ops k = true ∨ S w') ∧ Lex P pl ops Q S (k + 1) rest a' w') Q)
    else Lex P pl ops Q S (k + 1) rest (a.put o.dst undef) w

section
variable {P : Program} {ops : Array Oper} {Q : Exit → Act → World → Prop} {S : World → Prop} {pl : Bool}

/-- Whatever order is picked from here on; S holds behind each operation but the last. -/
def wpAnyL (P : Program) (ops : Array Oper) (Q : Exit → Act → World → Prop) (S : World → Prop) : Nat → Array Bool → Act → World → Prop
  | 0, listed, a, w => Region.ready .any ops listed = [] ∧ Q .normal a w
  | fuel + 1, listed, a, w =>
    (Region.ready .any ops listed = [] → Q .normal a w) ∧
    ∀ i ∈ Region.ready .any ops listed, wpOp P ops Q i (fun a' w' => (barB ops i = true ∨ S w') ∧ wpAnyL P ops Q S fuel (listed.setIfInBounds i true) a' w') a w

theorem wpAny_of_L : ∀ (fuel : Nat) (listed : Array Bool) (a : Act) (w : World), wpAnyL P ops Q S fuel listed a w → wpAny P .any ops Q fuel listed a w
  | 0, _, _, _, h => h
  | fuel + 1, _, _, _, h => ⟨h.1, fun i hi => wpOp_mono (fun a' w' h' => wpAny_of_L fuel _ a' w' h'.2) (h.2 i hi)⟩

theorem bar_all {listed : Array Bool} {j i : Nat} (hb : barB ops j = true) (hj : j ∈ Region.ready .any ops listed) (hi : i ∈ Region.ready .any ops listed) (hne : j ≠ i) : False := by
  obtain ⟨_, oj, hoj, hall⟩ := mem_ready.1 hj
  obtain ⟨hun, oi, hoi, _⟩ := mem_ready.1 hi
  simp only [barB, hoj, Option.map_some, Option.getD_some, Bool.and_eq_true, beq_iff_eq, List.all_eq_true, List.mem_range] at hb
  have hil : i < ops.size := (Array.getElem?_eq_some_iff.1 hoi).1
  have := hb.2 i (by omega)
  simp only [Array.any_eq_true', Bool.and_eq_true, beq_iff_eq] at this
  obtain ⟨e, he, hbi, hon⟩ := this
  have h1 := hall e he hbi
  rw [hon] at h1
  rcases Nat.lt_or_ge i listed.size with h' | h'
  · simp [h'] at hun h1; rw [hun] at h1; cases h1
  · simp [Array.getElem?_eq_none h'] at h1

theorem wpAnyL_first {i : Nat} {oi : Oper} {v : Value} (hi : ops[i]? = some oi) (hsel : ∀ (j : Nat) (o : Oper) cs b, ops[j]? = some o → o.op ≠ .select cs b)
    (hQ : ∀ c a w, Q (.panic c) (a.put oi.dst v) w → Q (.panic c) a w) :
    ∀ (fuel : Nat) (listed : Array Bool) (a : Act) (w : World),
      (∀ j oj, ops[j]? = some oj → j ≠ i → listed.getD j true = false → (∀ e ∈ oj.after, Region.binds .any e = true → e.on ≠ i) → oi.apart ops oj = true) →
      i ∈ Region.ready .any ops listed → YieldsIf P ops S oi v a → S w →
      wpAnyL P ops Q S fuel (listed.setIfInBounds i true) (a.put oi.dst v) w → wpAnyL P ops Q S (fuel + 1) listed a w := by
  intro fuel
  induction fuel with
  | zero =>
    intro listed a w _ hr hy hS H
    refine ⟨fun h => (by rw [h] at hr; cases hr), fun j hj => ?_⟩
    by_cases hji : j = i
    · subst hji; exact hy.wpOp hi hS ⟨.inr hS, H⟩
    · have := ready_mono hj hji
      rw [H.1] at this
      cases this
  | succ fuel ih =>
    intro listed a w hfree hr hy hS H
    refine ⟨fun h => (by rw [h] at hr; cases hr), fun j hj => ?_⟩
    by_cases hji : j = i
    · subst hji; exact hy.wpOp hi hS ⟨.inr hS, H⟩
    · have h1 := H.2 j (ready_mono hj hji)
      obtain ⟨hjun, oj, hoj, hall⟩ := mem_ready.1 hj
      have hnot : ∀ e ∈ oj.after, Region.binds .any e = true → e.on ≠ i := fun e he hb heq => by
        have h1 := hall e he hb
        have h0 := (mem_ready.1 hr).1
        rw [heq] at h1
        rcases Nat.lt_or_ge i listed.size with h' | h'
        · simp [h'] at h0 h1; rw [h0] at h1; cases h1
        · simp [Array.getElem?_eq_none h'] at h1
      have h2 := wpOp_putIf hoj (hfree j oj hoj hji hjun hnot) (fun cs b => hsel i oi cs b hi) (fun cs b => hsel j oj cs b hoj) hQ hy h1
      have hfree' : ∀ k ok, ops[k]? = some ok → k ≠ i → (listed.setIfInBounds j true).getD k true = false →
          (∀ e ∈ ok.after, Region.binds .any e = true → e.on ≠ i) → oi.apart ops ok = true := fun k ok hk hki hun hno => by
        refine hfree k ok hk hki ?_ hno
        by_cases hjk : j = k
        · subst hjk; exact hjun
        · rw [getD_set_ne true hjk] at hun; exact hun
      refine wpOp_mono (fun a' w' h3 => ?_) h2
      have hSw : S w' := h3.2.1.resolve_left (fun hb => bar_all hb hj hr hji)
      refine ⟨.inr hSw, ih (listed.setIfInBounds j true) a' w' hfree' (ready_mono hr (Ne.symm hji)) h3.1 hSw ?_⟩
      rw [Array.setIfInBounds_comm _ _ hji]
      exact h3.2.2

theorem lex_any (hs : Region.noSelect ops = true) (hQ : ∀ c a d v w, Q (.panic c) (Act.put a d v) w → Q (.panic c) a w) :
    ∀ (l : List Oper) (k : Nat) (a : Act) (w : World), (∀ j, l[j]? = ops[k + j]?) → lexFromH ops l.length k (firsts ops.size k) = true → (l = [] ∨ S w) →
      Lex P false ops Q S k l a w → wpAnyL P ops Q S l.length (firsts ops.size k) a w
  | [], k, a, w, _, hB, _, h => ⟨by simpa [lexFromH] using hB, h⟩
  | o :: l, k, a, w, hl, hB, hS, h => by
    have hS : S w := hS.resolve_left (by simp)
    have h0 : ops[k]? = some o := by simpa using (hl 0).symm
    have hl' : ∀ j, l[j]? = ops[k + 1 + j]? := fun j => by have := hl (j + 1); simpa [Nat.add_assoc, Nat.add_comm 1 j] using this
    simp only [List.length_cons, lexFromH, Bool.and_eq_true, Bool.or_eq_true] at hB
    obtain ⟨⟨hr, hf⟩, hB'⟩ := hB
    have hB2 : lexFromH ops l.length (k + 1) (firsts ops.size (k + 1)) = true := hB'
    rw [Lex] at h
    -- a yield
    have yld : ∀ v, YieldsIf P ops S o v a → Lex P false ops Q S (k + 1) l (a.put o.dst v) w → wpAnyL P ops Q S (l.length + 1) (firsts ops.size k) a w := fun v hy hn => by
      have hn' := lex_any hs hQ l (k + 1) _ w hl' hB2 (.inr hS) hn
      rcases hf with hf | hf
      · exact wpAnyL_first h0 (Region.noSelect_spec hs) (fun c a w h => hQ c a _ _ w h) l.length _ a w (Region.free_spec h0 hf) (by simpa using hr) hy hS hn'
      · have hf' : Region.ready .any ops (firsts ops.size k) = [k] := by simpa using hf
        refine ⟨fun h9 => (by rw [hf'] at h9; cases h9), fun i hi => ?_⟩
        rw [hf'] at hi
        have hi' : i = k := by simpa using hi
        subst hi'
        exact hy.wpOp h0 hS ⟨.inr hS, hn'⟩
    by_cases hw : Region.wanted o (yielded ops a.tmps) = true
    · rw [if_pos hw] at h
      rcases h with ⟨v, hv, hn⟩ | ⟨hsole, hwp⟩
      · exact yld v (.inl ⟨hw, hv⟩) hn
      · have hf' : Region.ready .any ops (firsts ops.size k) = [k] := by simpa [soleAt] using hsole
        refine ⟨fun h9 => (by rw [hf'] at h9; cases h9), fun i hi => ?_⟩
        rw [hf'] at hi
        have hi' : i = k := by simpa using hi
        subst hi'
        unfold wpOp
        simp only [h0, hw, if_true]
        refine .inl (Oper.wp_mono (fun a' w' hh => ⟨hh.1, lex_any hs hQ l (i + 1) a' w' hl' hB2 ?_ hh.2⟩) hwp)
        rcases hh.1 with hb | hb
        · left
          simp only [barB, Bool.and_eq_true, beq_iff_eq] at hb
          have h9 := hl' 0
          rw [Array.getElem?_eq_none (by omega)] at h9
          cases l with
          | nil => rfl
          | cons x r => simp at h9
        · exact .inr hb
    · rw [if_neg hw] at h
      exact yld undef (.inr ⟨by simpa using hw, rfl⟩) h

theorem wp_region_lex {id : Nat} {l : List Oper} {a : Act} {w : World} (S : World → Prop) (hm : P.follows .mixedOrders = true) (hB : lexBH l.toArray = true)
    (hS : S w.drew) (h : Lex P false l.toArray (NoPanic Q) S 0 l a w.drew) : (Code.region id l.toArray true).wp P Q a w := by
  simp only [lexBH, Bool.and_eq_true] at hB
  refine wp_region_noPanic (wp_region_any hm (wpAny_of_L (S := S) _ _ _ _ ?_))
  have := lex_any (P := P) hB.1 (fun c a d v w h => h) l 0 a w.drew (by simp) (by simpa [firsts] using hB.2) (.inr hS) h
  simpa [firsts] using this

theorem lex_list : ∀ (l : List Oper) (k : Nat) (a : Act) (w : World), (∀ j, l[j]? = ops[k + j]?) → (l = [] ∨ S w) → Lex P true ops Q S k l a w → wpList P ops Q l a w
  | [], _, _, _, _, _, h => h
  | o :: l, k, a, w, hl, hS, h => by
    have hS : S w := hS.resolve_left (by simp)
    have hl' : ∀ j, l[j]? = ops[k + 1 + j]? := fun j => by have := hl (j + 1); simpa [Nat.add_assoc, Nat.add_comm 1 j] using this
    rw [Lex] at h
    unfold wpList
    split
    · rename_i hw
      rw [if_pos hw] at h
      rcases h with ⟨v, hv, hn⟩ | ⟨_, hwp⟩
      · refine .inl ?_
        unfold Oper.wp
        rw [hv w hS]
        exact lex_list l (k + 1) _ w hl' (.inr hS) hn
      · refine .inl (Oper.wp_mono (fun a' w' hh => lex_list l (k + 1) a' w' hl' ?_ hh.2) hwp)
        rcases hh.1 with hb | hb
        · left
          simp only [barB, Bool.and_eq_true, beq_iff_eq] at hb
          have h9 := hl' 0
          rw [Array.getElem?_eq_none (by omega)] at h9
          cases l with
          | nil => rfl
          | cons x r => simp at h9
        · exact .inr hb
    · rename_i hw
      rw [if_neg hw] at h
      exact lex_list l (k + 1) _ w hl' (.inr hS) h

theorem wp_region_lexp {id : Nat} {l : List Oper} {a : Act} {w : World} (S : World → Prop) (hS : S w)
    (h : Lex P true l.toArray (NoPanic Q) S 0 l a w) : (Code.region id l.toArray false).wp P Q a w := wp_region_noPanic (wp_region_lit (lex_list l 0 a w (by simp) (.inr hS) h))

variable {k : Nat} {o : Oper} {rest : List Oper} {a : Act} {w : World}

theorem lex_nil (h : Q .normal a w) : Lex P pl ops Q S k [] a w := h
theorem lex_take {v : Value} (hw : Region.wanted o (yielded ops a.tmps) = true) (hv : ∀ w, S w → (execOp a.eval o).run P w = .ok (.value v) w) (h : Lex P pl ops Q S (k + 1) rest (a.put o.dst v) w) : Lex P pl ops Q S k (o :: rest) a w := by
  rw [Lex, if_pos hw]; exact .inl ⟨v, hv, h⟩
theorem lex_skip (hw : Region.wanted o (yielded ops a.tmps) = false) (h : Lex P pl ops Q S (k + 1) rest (a.put o.dst undef) w) : Lex P pl ops Q S k (o :: rest) a w := by
  rw [Lex, if_neg (by rw [hw]; exact Bool.false_ne_true)]; exact h
theorem lex_move (x : Operand) (hw : Region.wanted o (yielded ops a.tmps) = true) (ho : o.op = .move x) (h : Lex P pl ops Q S (k + 1) rest (a.put o.dst (a.eval x)) w) : Lex P pl ops Q S k (o :: rest) a w :=
  lex_take hw (fun w _ => BigFrame.run_move x ho w) h
theorem lex_assign (x : Operand) (hw : Region.wanted o (yielded ops a.tmps) = true) (ho : o.op = .assign x) (h : Lex P pl ops Q S (k + 1) rest (a.put o.dst (a.eval x)) w) : Lex P pl ops Q S k (o :: rest) a w :=
  lex_take hw (fun w _ => BigFrame.run_assign x ho w) h
theorem lex_mv (v : Value) (x : Operand) (hw : Region.wanted o (yielded ops a.tmps) = true) (ho : o.op = .move x) (hx : a.eval x = v) (h : Lex P pl ops Q S (k + 1) rest (a.put o.dst v) w) : Lex P pl ops Q S k (o :: rest) a w :=
  lex_move x hw ho (hx ▸ h)
theorem lex_as (v : Value) (x : Operand) (hw : Region.wanted o (yielded ops a.tmps) = true) (ho : o.op = .assign x) (hx : a.eval x = v) (h : Lex P pl ops Q S (k + 1) rest (a.put o.dst v) w) : Lex P pl ops Q S k (o :: rest) a w :=
  lex_assign x hw ho (hx ▸ h)
theorem lex_sole (hs : (pl || soleAt ops k) = true) (hw : Region.wanted o (yielded ops a.tmps) = true) (h : o.wp P a w (fun a' w' => S w' ∧ Lex P pl ops Q S (k + 1) rest a' w') Q) : Lex P pl ops Q S k (o :: rest) a w := by
  rw [Lex, if_pos hw]; exact .inr ⟨hs, Oper.wp_mono (fun a' w' hh => ⟨.inr hh.1, hh.2⟩) h⟩
/-- The last operation: S need not hold behind it. -/
theorem lex_last (hs : (pl || soleAt ops k) = true) (hb : barB ops k = true) (hw : Region.wanted o (yielded ops a.tmps) = true) (h : o.wp P a w (fun a' w' => Lex P pl ops Q S (k + 1) rest a' w') Q) : Lex P pl ops Q S k (o :: rest) a w := by
  rw [Lex, if_pos hw]; exact .inr ⟨hs, Oper.wp_mono (fun a' w' hh => ⟨.inl hb, hh⟩) h⟩
/-- A wide load. -/
theorem lex_load (ty : TypeId) (x : Operand) (b off : Nat) (cs : List Value) (d : TypeDesc) (hw : Region.wanted o (yielded ops a.tmps) = true) (ho : o.op = .load ty x) (hx : a.eval x = .pointer (some ⟨b, off, none⟩))
    (hS : ∀ w, S w → w.rangeAt b off cs) (hu : P.underlying ty = some d) (hd : d.isRow = true) (hi : (P.info? ty).map (·.size) = some cs.length)
    (h : Lex P pl ops Q S (k + 1) rest (a.put o.dst (.agg cs.toArray)) w) : Lex P pl ops Q S k (o :: rest) a w :=
  lex_take hw (fun w hw' => by
    unfold execOp
    simp only [ho, hx, Instr.loadAt, Instr.sureAddr, Sem.run_bind, Sem.run_pure, Result.andThen_ok, run_loadVar_mid w b off ty cs d (hS w hw') hu hd hi]) h
/-- A wide store. -/
theorem lex_store (ty : TypeId) (x y : Operand) (b off : Nat) (cells : Array Value) (hs : (pl || soleAt ops k) = true) (hw : Region.wanted o (yielded ops a.tmps) = true) (ho : o.op = .store ty x y) (hx : a.eval x = .pointer (some ⟨b, off, none⟩)) (hy : a.eval y = .agg cells)
    (ht : w.there b off cells.size) (hi : (P.info? ty).map (·.size) = some cells.size) (h1 : cells.all (·.oneCell') = true)
    (hS : S (w.setCells b off cells.toList)) (h : Lex P pl ops Q S (k + 1) rest (a.put o.dst undef) (w.setCells b off cells.toList)) : Lex P pl ops Q S k (o :: rest) a w :=
  lex_sole hs hw (wp_store_mid ty x y ho b off cells hx hy ht hi h1 ⟨hS, h⟩)
/-- A comparison of two values, its run known in every world. -/
theorem lex_bin (op : BinOp) (ty ty' : TypeId) (x y : Operand) (u v r : Value) (hw : Region.wanted o (yielded ops a.tmps) = true) (ho : o.op = .binOp op ty x y ty') (hx : a.eval x = u) (hy : a.eval y = v)
    (hg : ∀ w, (eqGuard op ty x y u v).run P w = .ok () w) (hr : ∀ w, (binOp op ty u v).run P w = .ok r w) (h : Lex P pl ops Q S (k + 1) rest (a.put o.dst r) w) : Lex P pl ops Q S k (o :: rest) a w :=
  lex_take hw (fun w _ => by
    unfold execOp
    simp only [ho, hx, hy, Sem.run_bind, hg w, Result.andThen_ok, hr w, Sem.run_pure]) h
end

end Go.Proofs.Qxb6601415aMods
