import Derived.Test.Qxb6601415aModsT
import Derived.Maps.AppendAt
import Derived.Great.BuildSlice
namespace Go.Proofs.Qxb6601415aMods
open Go.RowKit Go.Extern.Stop
set_option linter.unusedVariables false
set_option linter.unusedSimpArgs false
set_option maxRecDepth 20000

/-- A slice that the call owns, of wide elements. -/
def OwnW (w : World) (B : Nat) (e : TypeId) (sz : Nat) (v : Value) (L : List (List Value)) : Prop := w.ownsRow B e sz v L.length L.flatten ∧ ∀ x ∈ L, x.length = sz

theorem flatten_get : ∀ (L : List (List Value)) (sz i j : Nat), (∀ x ∈ L, x.length = sz) → i < L.length → j < sz → L.flatten[i * sz + j]? = (L.getD i [])[j]?
  | [], _, _, _, _, h, _ => by simp at h
  | x :: r, sz, i, j, hl, hi, hj => by
    have hx : x.length = sz := hl x (by simp)
    cases i with
    | zero =>
      simp only [List.flatten_cons, Nat.zero_mul, Nat.zero_add, List.getD_cons_zero]
      rw [List.getElem?_append_left (by omega)]
    | succ i =>
      have e1 : (i + 1) * sz = i * sz + sz := Nat.succ_mul i sz
      simp only [List.flatten_cons, List.getD_cons_succ]
      rw [List.getElem?_append_right (by omega), show (i + 1) * sz + j - x.length = i * sz + j by omega]
      exact flatten_get r sz i j (fun y hy => hl y (by simp [hy])) (by simpa using hi) hj

theorem OwnW.sl {w : World} {B : Nat} {e : TypeId} {sz : Nat} {v : Value} {L : List (List Value)} (h : OwnW w B e sz v L) : SlV w v L.length sz (fun i => L.getD i []) := by
  obtain ⟨⟨hlen, h1⟩, h2⟩ := h
  rcases h1 with ⟨rfl, h0⟩ | ⟨g, cap, cur, rfl, hg, hh, hn, hc, hs, ht⟩
  · exact .inl ⟨rfl, h0⟩
  · refine .inr ⟨g, 0, cap, rfl, fun i hi j u hu => ?_⟩
    have hi' : i < L.length := hi
    have hx : (L.getD i []).length = sz := by
      rw [List.getD_eq_getElem?_getD, List.getElem?_eq_getElem hi']
      exact h2 _ (List.getElem_mem hi')
    have hj : j < sz := by
      have h9 : j < (L.getD i []).length := (List.getElem?_eq_some_iff.1 hu).1
      omega
    have e1 : (i + 1) * sz = i * sz + sz := Nat.succ_mul i sz
    have e2 : (i + 1) * sz ≤ L.length * sz := Nat.mul_le_mul_right _ hi'
    rw [cell_of_row w g (0 + i * sz + j) cur e _ hh, ← Array.getElem?_toList, ← List.getElem?_take_of_lt (show 0 + i * sz + j < L.length * sz by omega), ht, Nat.zero_add, flatten_get L sz i j h2 hi' hj]
    exact hu

theorem OwnW.keep {w w' : World} {B : Nat} {e : TypeId} {sz : Nat} {v : Value} {L : List (List Value)} (h : OwnW w B e sz v L) (hb : ∀ g, v.ownBlock = some g → w'.heap[g]? = w.heap[g]?) : OwnW w' B e sz v L := by
  obtain ⟨⟨hlen, h1⟩, h2⟩ := h
  refine ⟨⟨hlen, ?_⟩, h2⟩
  rcases h1 with h1 | ⟨g, cap, cur, rfl, hg, hh, hn, hc, hs, ht⟩
  · exact .inl h1
  · exact .inr ⟨g, cap, cur, rfl, hg, (hb g rfl).trans hh, hn, hc, hs, ht⟩
theorem OwnW.block {w : World} {B : Nat} {e : TypeId} {sz : Nat} {v : Value} {L : List (List Value)} (h : OwnW w B e sz v L) : ∀ g, v.ownBlock = some g → B ≤ g ∧ g < w.heap.size := by
  intro g hg
  rcases h.1.2 with ⟨rfl, _⟩ | ⟨g', cap, cur, rfl, hgB, hh, _⟩
  · simp [Value.ownBlock] at hg
  · simp [Value.ownBlock] at hg
    subst hg
    refine ⟨hgB, ?_⟩
    rcases Nat.lt_or_ge g' w.heap.size with hlt | hge
    · exact hlt
    · rw [Array.getElem?_eq_none hge] at hh; cases hh
theorem OwnW.below {w w' : World} {B D : Nat} {e : TypeId} {sz : Nat} {v : Value} {L : List (List Value)} (h : OwnW w B e sz v L) (hB : Below D w w') (hD : w.heap.size ≤ D) : OwnW w' B e sz v L :=
  h.keep fun g hg => hB.block g (Nat.lt_of_lt_of_le (h.block g hg).2 hD)
theorem OwnW.nil (w : World) (B : Nat) (e : TypeId) (sz : Nat) : OwnW w B e sz (.slice none 0 0) [] := ⟨⟨by simp, .inl ⟨rfl, rfl⟩⟩, fun x hx => by simp at hx⟩
theorem OwnW.alloc {w : World} {B : Nat} {e : TypeId} {sz : Nat} {v : Value} {L : List (List Value)} (h : OwnW w B e sz v L) (o : Obj) : OwnW (w.alloc o) B e sz v L :=
  h.keep fun g hg => Below.heap_alloc w o g (h.block g hg).2
theorem OwnW.drew {w : World} {B : Nat} {e : TypeId} {sz : Nat} {v : Value} {L : List (List Value)} (h : OwnW w B e sz v L) : OwnW w.drew B e sz v L := h
theorem OwnW.form {w : World} {B : Nat} {e : TypeId} {sz : Nat} {v : Value} {L : List (List Value)} (h : OwnW w B e sz v L) : ∃ a c, v = .slice a L.length c ∧ L.length ≤ c := by
  rcases h.1.2 with ⟨rfl, h0⟩ | ⟨g', cap, cur, rfl, hgB, hh, hn, _⟩
  · exact ⟨none, 0, by rw [h0], by omega⟩
  · exact ⟨_, cap, rfl, hn⟩

theorem append_zero {P : Program} {T E : TypeId} {sz : Nat} (ht : P.underlying T = some (.slice E)) (hi : (P.info? E).map (·.size) = some sz) (ty : TypeId) (a a' : Option Addr) (n c c' : Nat) (hn : n ≤ c) (w : World) :
    (Builtin.append_ #[T, T] ty #[.slice a n c, .slice a' 0 c']).run P w = .ok (.slice a n c) w := by
  have hsz := run_sizeOf (P := P) hi
  cases a' with
  | none => cases a <;> simp [Builtin.append_, run_underlying ht, hsz, Builtin.lenOf, Builtin.firstCells, hn, storeCells]
  | some ad => cases a <;> simp [Builtin.append_, run_underlying ht, hsz, Builtin.lenOf, Builtin.firstCells, hn, storeCells, loadCells, loadCellsFrom]

/-- append(v, x...). -/
theorem append_any {T E : TypeId} {sz by' : Nat} (ht : Trym.prog.underlying T = some (.slice E)) (hi : (Trym.prog.info? E).map (fun i => (i.zero.map (·.cells.size), i.size, i.bytes)) = some (some sz, sz, by')) (hsz : 0 < sz) (hby : by' ≤ 1000) (ty : TypeId)
    {w : World} {B : Nat} {v x : Value} {L : List (List Value)} {m : Nat} {f : Nat → List Value} (hown : OwnW w B E sz v L) (hx : SlV w x m sz f) (hf : ∀ i, i < m → (f i).length = sz) (h1 : ∀ i, i < m → ∀ u ∈ f i, u.oneCell' = true)
    (hm : L.length + m ≤ 100000000) (hB : B ≤ w.heap.size) :
    ∃ v' w', (Builtin.append_ #[T, T] ty #[v, x]).run Trym.prog w = .ok v' w' ∧ OwnW w' B E sz v' (L ++ (List.range m).map f) ∧ w.grownBy w' v.ownBlock ∧ (v' = .slice none 0 0 ↔ v = .slice none 0 0 ∧ m = 0) ∧ (v'.ownBlock = v.ownBlock ∨ v'.ownBlock = some w.heap.size) := by
  obtain ⟨i, hi1, hi2⟩ := Option.map_eq_some_iff.1 hi
  obtain ⟨z, hz1, hz2⟩ := Option.map_eq_some_iff.1 (Prod.mk.inj hi2).1
  have hs : i.size = sz := (Prod.mk.inj (Prod.mk.inj hi2).2).1
  have hb : i.bytes = by' := (Prod.mk.inj (Prod.mk.inj hi2).2).2
  have hsm : (Trym.prog.info? E).map (·.size) = some sz := by rw [hi1]; simp [hs]
  have hall : ∀ y ∈ (List.range m).map f, y.length = sz := fun y hy => by
    simp only [List.mem_map, List.mem_range] at hy
    obtain ⟨j, hj, rfl⟩ := hy
    exact hf j hj
  have hfl : ∀ M : List (List Value), (∀ y ∈ M, y.length = sz) → M.flatten.length = M.length * sz := fun M => by
    induction M with
    | nil => intro _; simp
    | cons y r ih =>
      intro hM
      rw [List.flatten_cons, List.length_append, ih (fun z hz => hM z (by simp [hz])), hM y (by simp), List.length_cons, Nat.succ_mul, Nat.add_comm]
  rcases hx with ⟨rfl, rfl⟩ | ⟨b, off, cap, rfl, hr⟩
  · obtain ⟨a, c, rfl, hc⟩ := hown.form
    refine ⟨_, w, append_zero ht hsm ty a none _ c 0 hc w, by simpa using hown, World.grownBy.refl _ _, by simp, .inl rfl⟩
  · have hnews : ∀ j u, ((List.range m).map f).flatten[j]? = some u → w.cell? ((⟨b, off, none⟩ : Addr).add j) = some u := fun j u hu => by
      have hj : j < m * sz := by
        have := (List.getElem?_eq_some_iff.1 hu).1
        rw [hfl _ hall] at this
        simpa using this
      have hdiv : j / sz < m := by rw [Nat.div_lt_iff_lt_mul hsz]; exact hj
      have hmod : j % sz < sz := Nat.mod_lt _ hsz
      have hjj : j / sz * sz + j % sz = j := Nat.div_add_mod' j sz
      rw [← hjj, flatten_get _ sz (j / sz) (j % sz) hall (by simpa using hdiv) hmod, List.getD_eq_getElem?_getD, List.getElem?_map, List.getElem?_range hdiv] at hu
      have := hr (j / sz) hdiv (j % sz) u hu
      rw [Addr.add_mid, ← hjj, ← Nat.add_assoc]
      exact this
    have hlen : ((List.range m).map f).flatten.length = m * sz := by rw [hfl _ hall]; simp
    have hone : ∀ u ∈ ((List.range m).map f).flatten, u.oneCell' = true := fun u hu => by
      simp only [List.mem_flatten, List.mem_map, List.mem_range] at hu
      obtain ⟨y, ⟨j, hj, rfl⟩, hu⟩ := hu
      exact h1 j hj u hu
    have hbb : (L.length + m) * by' ≤ 100000000 * 1000 := Nat.mul_le_mul hm hby
    obtain ⟨v', w', r1, r2, r3, r4, r5⟩ := run_append_own_at (P := Trym.prog) w B T ty E i z sz by' ht hi1 hz1 hs hb hz2 hsz v L.length L.flatten hown.1 ⟨b, off, none⟩ m cap _ hlen hnews hone (by simp only [maxLen]; omega) (by omega) hB
    refine ⟨v', w', r1, ⟨?_, ?_⟩, r3, r4, r5⟩
    · rw [List.length_append, List.flatten_append]
      simpa using r2
    · intro y hy
      rcases List.mem_append.1 hy with hy | hy
      · exact hown.2 y hy
      · exact hall y hy

theorem e34 : (Trym.prog.info? 34).map (fun i => (i.zero.map (·.cells.size), i.size, i.bytes)) = some (some 20, 20, 20) := by kernel_rfl
theorem e70 : (Trym.prog.info? 70).map (fun i => (i.zero.map (·.cells.size), i.size, i.bytes)) = some (some 20, 20, 20) := by kernel_rfl
theorem e60 : (Trym.prog.info? 60).map (fun i => (i.zero.map (·.cells.size), i.size, i.bytes)) = some (some 43, 43, 64) := by kernel_rfl
theorem e91 : (Trym.prog.info? 91).map (fun i => (i.zero.map (·.cells.size), i.size, i.bytes)) = some (some 43, 43, 64) := by kernel_rfl

/-- []T{x}. -/
theorem one_slice {T E : TypeId} {sz by' : Nat} (ht : Trym.prog.underlying T = some (.slice E)) (hi : (Trym.prog.info? E).map (fun i => (i.zero.map (·.cells.size), i.size, i.bytes)) = some (some sz, sz, by')) (hsz : 0 < sz) (hs2 : sz ≤ 1000) (cs : List Value) (hc : cs.length = sz) (w : World) :
    (Instr.buildSlice T 1 #[(0, .agg cs.toArray)]).run Trym.prog w = .ok (.slice (some ⟨w.heap.size, 0, none⟩) 1 1) (w.alloc (.cells cs.toArray E)) := by
  obtain ⟨i, hi1, hi2⟩ := Option.map_eq_some_iff.1 hi
  obtain ⟨z, hz1, hz2⟩ := Option.map_eq_some_iff.1 (Prod.mk.inj hi2).1
  have hs : i.size = sz := (Prod.mk.inj (Prod.mk.inj hi2).2).1
  refine run_buildSlice w T E 1 _ cs.toArray i z ht hi1 hz1 (by rw [hs]; omega) (by rw [hs]; omega) ?_
  rw [hs, Nat.one_mul]
  have hZ : ((Array.range sz).map (z.cells[· % z.cells.size]!)).size = sz := by simp
  generalize (Array.range sz).map (z.cells[· % z.cells.size]!) = Z at hZ
  have s1 : (Value.agg cs.toArray).cells.size = sz := by simp [Value.cells, hc]
  rw [fill_cons (off := 0) (sz := sz) (by simp) s1 (by omega), Instr.fill]
  refine congrArg some ?_
  have t1 := lay_take Z 0 (Value.agg cs.toArray).cells (by omega)
  rw [s1, Nat.zero_add, List.take_of_length_le (by rw [Array.length_toList, size_lay]; omega)] at t1
  refine Array.toList_inj.1 ?_
  rw [t1]
  simp [Value.cells]

section
variable {P : Program} {ops : Array Oper} {Q : Exit → Act → World → Prop} {S : World → Prop} {pl : Bool} {k : Nat} {o : Oper} {rest : List Oper} {a : Act} {w : World}
theorem lex_bslice (t : TypeId) (len : Nat) (parts : Array (Nat × Operand)) (vs : Array (Nat × Value)) (r : Value) (w' : World) (hs : (pl || soleAt ops k) = true) (hw : Region.wanted o (yielded ops a.tmps) = true) (ho : o.op = .buildSlice t len parts) (hp : parts.toList.map (fun p => (p.1, a.eval p.2)) = vs.toList)
    (hr : (Instr.buildSlice t len vs).run P w = .ok r w') (hS : S w') (h : Lex P pl ops Q S (k + 1) rest (a.put o.dst r) w') : Lex P pl ops Q S k (o :: rest) a w := by
  have hp' : parts.map (fun (i, x) => (i, a.eval x)) = vs := Array.toList_inj.1 (by rw [Array.toList_map]; exact hp)
  refine lex_sole hs hw ?_
  unfold Oper.wp execOp
  simp only [ho, hp', Sem.run_bind, hr, Result.andThen_ok, Sem.run_pure]
  exact ⟨hS, h⟩
/-- A builtin call, its run known here. -/
theorem lex_append (t : TypeId) (x y : Operand) (u v r : Value) (w' : World) (hs : (pl || soleAt ops k) = true) (hw : Region.wanted o (yielded ops a.tmps) = true) (ho : o.op = .call { callee := .builtin .append, args := #[x, y], argTypes := #[t, t] }) (hx : a.eval x = u) (hy : a.eval y = v)
    (hr : (Builtin.append_ #[t, t] o.type #[u, v]).run P w = .ok r w') (hS : S w') (h : Lex P pl ops Q S (k + 1) rest (a.put o.dst r) w') : Lex P pl ops Q S k (o :: rest) a w := by
  refine lex_sole hs hw ?_
  unfold Oper.wp execOp
  simp only [ho, resolve, invoke, builtin, Sem.run_bind, Sem.run_pure, Result.andThen_ok, List.map_toArray, List.map_cons, List.map_nil, hx, hy, hr]
  exact ⟨hS, h⟩
theorem lex_not (t : TypeId) (x : Operand) (b : Bool) (hw : Region.wanted o (yielded ops a.tmps) = true) (ho : o.op = .unOp .not t x) (hx : a.eval x = .bool b) (h : Lex P pl ops Q S (k + 1) rest (a.put o.dst (.bool (!b))) w) : Lex P pl ops Q S k (o :: rest) a w :=
  lex_take hw (fun w _ => by
    unfold execOp
    simp only [ho, hx]
    rfl) h
end

end Go.Proofs.Qxb6601415aMods
