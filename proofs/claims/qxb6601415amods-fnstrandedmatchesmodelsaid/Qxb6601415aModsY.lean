import Derived.Test.Qxb6601415aModsX
namespace Go.Proofs.Qxb6601415aMods
open Go.RowKit Go.Extern.Stop Go.Maps Go.ChangeMaps
set_option linter.unusedVariables false
set_option linter.unusedSimpArgs false
set_option maxRecDepth 20000

section
variable {P : Program} {ops : Array Oper} {Q : Exit → Act → World → Prop} {S : World → Prop} {pl : Bool} {k : Nat} {o : Oper} {rest : List Oper} {a : Act} {w : World}
theorem lex_nilc (x : Operand) (ad : Addr) (hw : Region.wanted o (yielded ops a.tmps) = true) (ho : o.op = .nilCheck x) (hx : a.eval x = .pointer (some ad)) (h : Lex P pl ops Q S (k + 1) rest (a.put o.dst (.pointer (some ad))) w) : Lex P pl ops Q S k (o :: rest) a w :=
  lex_take hw (fun w _ => by unfold execOp; simp only [ho, hx]; rfl) h
/-- An operation that is carried out here. -/
theorem lex_do (v : Value) (w' : World) (hs : (pl || soleAt ops k) = true) (hw : Region.wanted o (yielded ops a.tmps) = true) (hr : (execOp a.eval o).run P w = .ok (.value v) w') (hS : S w') (h : Lex P pl ops Q S (k + 1) rest (a.put o.dst v) w') : Lex P pl ops Q S k (o :: rest) a w := by
  refine lex_sole hs hw ?_
  unfold Oper.wp
  rw [hr]
  exact ⟨hS, h⟩
theorem lex_dou (w' : World) (hs : (pl || soleAt ops k) = true) (hw : Region.wanted o (yielded ops a.tmps) = true) (hr : (execOp a.eval o).run P w = .ok .skip w') (hS : S w') (h : Lex P pl ops Q S (k + 1) rest (a.put o.dst undef) w') : Lex P pl ops Q S k (o :: rest) a w := by
  refine lex_sole hs hw ?_
  unfold Oper.wp
  rw [hr]
  exact ⟨hS, h⟩
theorem lex_looks (t : TypeId) (x ix : Operand) (ok : Bool) (m ky r : Value) (hs : (pl || soleAt ops k) = true) (hw : Region.wanted o (yielded ops a.tmps) = true) (ho : o.op = .lookup t x ix ok) (hx : a.eval x = m) (hi : a.eval ix = ky) (hr : (Instr.lookup t m ky ok).run P w = .ok r w) (hS : S w)
    (h : Lex P pl ops Q S (k + 1) rest (a.put o.dst r) w) : Lex P pl ops Q S k (o :: rest) a w :=
  lex_do r w hs hw (by unfold execOp; simp only [ho, hx, hi, Sem.run_bind, hr, Result.andThen_ok, Sem.run_pure]) hS h
theorem lex_entry (t : TypeId) (x ix : Operand) (m ky r : Value) (w' : World) (hs : (pl || soleAt ops k) = true) (hw : Region.wanted o (yielded ops a.tmps) = true) (ho : o.op = .mapEntry t x ix) (hx : a.eval x = m) (hi : a.eval ix = ky) (hr : (Instr.mapEntry t m ky).run P w = .ok r w') (hS : S w')
    (h : Lex P pl ops Q S (k + 1) rest (a.put o.dst r) w') : Lex P pl ops Q S k (o :: rest) a w :=
  lex_do r w' hs hw (by unfold execOp; simp only [ho, hx, hi, Sem.run_bind, hr, Result.andThen_ok, Sem.run_pure]) hS h
theorem lex_estore (t : TypeId) (x s y : Operand) (m st v : Value) (w' : World) (hs : (pl || soleAt ops k) = true) (hw : Region.wanted o (yielded ops a.tmps) = true) (ho : o.op = .entryStore t x s y) (hx : a.eval x = m) (hst : a.eval s = st) (hy : a.eval y = v) (hr : (Instr.entryStore t m st v).run P w = .ok () w') (hS : S w')
    (h : Lex P pl ops Q S (k + 1) rest (a.put o.dst undef) w') : Lex P pl ops Q S k (o :: rest) a w :=
  lex_dou w' hs hw (by unfold execOp; simp only [ho, hx, hst, hy, Sem.run_bind, hr, Result.andThen_ok, Sem.run_pure]) hS h
theorem lex_estoreZ (t : TypeId) (x s y : Operand) (m st v : Value) (w' : World) (hs : (pl || soleAt ops k) = true) (hb : barB ops k = true) (hw : Region.wanted o (yielded ops a.tmps) = true) (ho : o.op = .entryStore t x s y) (hx : a.eval x = m) (hst : a.eval s = st) (hy : a.eval y = v) (hr : (Instr.entryStore t m st v).run P w = .ok () w')
    (h : Lex P pl ops Q S (k + 1) rest (a.put o.dst undef) w') : Lex P pl ops Q S k (o :: rest) a w := by
  refine lex_last hs hb hw ?_
  have hr' : (execOp a.eval o).run P w = .ok .skip w' := by unfold execOp; simp only [ho, hx, hst, hy, Sem.run_bind, hr, Result.andThen_ok, Sem.run_pure]
  unfold Oper.wp
  rw [hr']
  exact h
theorem lex_lookq (t : TypeId) (x ix : Operand) (ok : Bool) (m ky r : Value) (hw : Region.wanted o (yielded ops a.tmps) = true) (ho : o.op = .lookup t x ix ok) (hx : a.eval x = m) (hi : a.eval ix = ky) (hr : ∀ w, S w → (Instr.lookup t m ky ok).run P w = .ok r w)
    (h : Lex P pl ops Q S (k + 1) rest (a.put o.dst r) w) : Lex P pl ops Q S k (o :: rest) a w :=
  lex_take hw (fun w hw' => by unfold execOp; simp only [ho, hx, hi, Sem.run_bind, hr w hw', Result.andThen_ok, Sem.run_pure]) h
theorem lex_mapup (t : TypeId) (x s y : Operand) (m ky v : Value) (w' : World) (hs : (pl || soleAt ops k) = true) (hw : Region.wanted o (yielded ops a.tmps) = true) (ho : o.op = .mapUpdate t x s y) (hx : a.eval x = m) (hst : a.eval s = ky) (hy : a.eval y = v) (hr : (Instr.mapUpdate t m ky v).run P w = .ok () w') (hS : S w')
    (h : Lex P pl ops Q S (k + 1) rest (a.put o.dst undef) w') : Lex P pl ops Q S k (o :: rest) a w :=
  lex_dou w' hs hw (by unfold execOp; simp only [ho, hx, hst, hy, Sem.run_bind, hr, Result.andThen_ok, Sem.run_pure]) hS h
theorem lex_delete (t t' : TypeId) (x y : Operand) (m ky r : Value) (w' : World) (hs : (pl || soleAt ops k) = true) (hw : Region.wanted o (yielded ops a.tmps) = true) (ho : o.op = .call { callee := .builtin .delete, args := #[x, y], argTypes := #[t, t'] }) (hx : a.eval x = m) (hy : a.eval y = ky)
    (hr : (Builtin.delete_ #[t, t'] o.type #[m, ky]).run P w = .ok r w') (hS : S w') (h : Lex P pl ops Q S (k + 1) rest (a.put o.dst r) w') : Lex P pl ops Q S k (o :: rest) a w :=
  lex_do r w' hs hw (by unfold execOp; simp only [ho, resolve, invoke, builtin, Sem.run_bind, Sem.run_pure, Result.andThen_ok, List.map_toArray, List.map_cons, List.map_nil, hx, hy, hr]) hS h
theorem lex_len (t : TypeId) (x : Operand) (m r : Value) (hs : (pl || soleAt ops k) = true) (hw : Region.wanted o (yielded ops a.tmps) = true) (ho : o.op = .call { callee := .builtin .len, args := #[x], argTypes := #[t] }) (hx : a.eval x = m)
    (hr : (Builtin.len_ #[t] o.type #[m]).run P w = .ok r w) (hS : S w) (h : Lex P pl ops Q S (k + 1) rest (a.put o.dst r) w) : Lex P pl ops Q S k (o :: rest) a w :=
  lex_do r w hs hw (by unfold execOp; simp only [ho, resolve, invoke, builtin, Sem.run_bind, Sem.run_pure, Result.andThen_ok, List.map_toArray, List.map_cons, List.map_nil, hx, hr]) hS h
theorem lex_lens (t e : TypeId) (x : Operand) (ad : Option Addr) (n c : Nat) (hw : Region.wanted o (yielded ops a.tmps) = true) (ho : o.op = .call { callee := .builtin .len, args := #[x], argTypes := #[t] }) (hx : a.eval x = .slice ad n c)
    (ht : P.underlying t = some (.slice e)) (h : Lex P pl ops Q S (k + 1) rest (a.put o.dst (.int .i64 (n : Int))) w) : Lex P pl ops Q S k (o :: rest) a w :=
  lex_take hw (fun w _ => by
    have hr : (Builtin.len_ #[t] o.type #[.slice ad n c]).run P w = .ok (.int .i64 (n : Int)) w := by simp [Builtin.len_, run_underlying ht, goInt]
    unfold execOp
    simp only [ho, resolve, invoke, builtin, Sem.run_bind, Sem.run_pure, Result.andThen_ok, List.map_toArray, List.map_cons, List.map_nil, hx, hr]) h
theorem lex_extract (x : Operand) (ix : Nat) (vs : Array Value) (v : Value) (hw : Region.wanted o (yielded ops a.tmps) = true) (ho : o.op = .extract x ix) (hx : a.eval x = .tuple vs) (hv : vs[ix]? = some v) (h : Lex P pl ops Q S (k + 1) rest (a.put o.dst v) w) : Lex P pl ops Q S k (o :: rest) a w :=
  lex_take hw (fun w _ => by unfold execOp; simp only [ho, hx, Instr.extract, hv, Sem.run_bind, Sem.run_pure, Result.andThen_ok]) h
/-- A sum, a difference, a comparison of two int's: by reckoning. -/
theorem lex_sub (t t' : TypeId) (x y : Operand) (m n : Int) (hw : Region.wanted o (yielded ops a.tmps) = true) (ho : o.op = .binOp .sub t x y t') (hx : a.eval x = .int .i64 m) (hy : a.eval y = .int .i64 n)
    (h : Lex P pl ops Q S (k + 1) rest (a.put o.dst (.int .i64 (IntKind.i64.wrap (m - n)))) w) : Lex P pl ops Q S k (o :: rest) a w :=
  lex_bin .sub t t' x y _ _ _ hw ho hx hy (fun w => rfl) (fun w => by simp [go_sem]) h
theorem lex_eqi (t t' : TypeId) (x y : Operand) (m n : Int) (hw : Region.wanted o (yielded ops a.tmps) = true) (ho : o.op = .binOp .eql t x y t') (hx : a.eval x = .int .i64 m) (hy : a.eval y = .int .i64 n) (ht : P.underlying t = some (.int .i64))
    (h : Lex P pl ops Q S (k + 1) rest (a.put o.dst (.bool (m == n))) w) : Lex P pl ops Q S k (o :: rest) a w :=
  lex_bin .eql t t' x y _ _ _ hw ho hx hy (fun w => rfl) (fun w => by simp [go_sem, ht]) h
theorem lex_box (t : TypeId) (x : Operand) (cs : List Value) (hs : (pl || soleAt ops k) = true) (hw : Region.wanted o (yielded ops a.tmps) = true) (ho : o.op = .box t x) (hx : a.eval x = .agg cs.toArray) (hS : S (w.alloc (.cells cs.toArray t)))
    (h : Lex P pl ops Q S (k + 1) rest (a.put o.dst (.pointer (some ⟨w.heap.size, 0, none⟩))) (w.alloc (.cells cs.toArray t))) : Lex P pl ops Q S k (o :: rest) a w :=
  lex_do (.pointer (some ⟨w.heap.size, 0, none⟩)) _ hs hw (by unfold execOp; simp only [ho, hx]; rfl) hS h
theorem lex_alloc (t : TypeId) (z : Value) (hs : (pl || soleAt ops k) = true) (hw : Region.wanted o (yielded ops a.tmps) = true) (ho : o.op = .alloc t) (hz : (zeroValue t).run P w = .ok z w) (hS : S (w.alloc (.cells z.cells t)))
    (h : Lex P pl ops Q S (k + 1) rest (a.put o.dst (.pointer (some ⟨w.heap.size, 0, none⟩))) (w.alloc (.cells z.cells t))) : Lex P pl ops Q S k (o :: rest) a w :=
  lex_do (.pointer (some ⟨w.heap.size, 0, none⟩)) _ hs hw (by unfold execOp; simp only [ho, Instr.alloc, Sem.run_bind, hz, Result.andThen_ok]; rfl) hS h
end

/-- w' is w but for the blocks in S and for new ones. -/
structure KpB (w w' : World) (S : List Nat) : Prop where
  os : w'.os = w.os
  tape : w'.tape = w.tape
  output : w'.output = w.output
  size : w.heap.size ≤ w'.heap.size
  block : ∀ k, k < w.heap.size → k ∉ S → w'.heap[k]? = w.heap[k]?
theorem KpB.refl (w : World) (S : List Nat) : KpB w w S := ⟨rfl, rfl, rfl, Nat.le_refl _, fun _ _ _ => rfl⟩
theorem KpB.trans {a b c : World} {S : List Nat} (h : KpB a b S) (h' : KpB b c S) : KpB a c S :=
  ⟨h'.os.trans h.os, h'.tape.trans h.tape, h'.output.trans h.output, Nat.le_trans h.size h'.size, fun k hk hS => (h'.block k (Nat.lt_of_lt_of_le hk h.size) hS).trans (h.block k hk hS)⟩
theorem KpB.drew {a w : World} {S : List Nat} (h : KpB a w S) : KpB a w.drew S := ⟨h.os, h.tape, h.output, h.size, h.block⟩
theorem KpB.of_below {w w' : World} {S : List Nat} (h : Below w.heap.size w w') : KpB w w' S := ⟨h.os, h.tape, h.output, h.size, fun k hk _ => h.block k hk⟩
theorem KpB.alloc (w : World) (o : Obj) (S : List Nat) : KpB w (w.alloc o) S := KpB.of_below ((Below.refl _ _).alloc (Nat.le_refl _) o)
theorem KpB.grown {w w' : World} {row : Option Nat} {S : List Nat} (h : w.grownBy w' row) (hr : ∀ g, row = some g → g ∈ S) : KpB w w' S :=
  ⟨h.os, h.tape, h.output, h.size, fun k hk hS => h.block k hk (fun e => hS (hr k e.symm))⟩
theorem KpB.turned {w w' : World} {g : Nat} {S : List Nat} (h : w.mapTurned w' g) (hg : g ∈ S) : KpB w w' S := KpB.grown h.grown (fun k e => by simp at e; exact e ▸ hg)
theorem KpB.mono {w w' : World} {S S' : List Nat} (h : KpB w w' S) (hS : ∀ x ∈ S, x ∈ S') : KpB w w' S' := ⟨h.os, h.tape, h.output, h.size, fun k hk hk' => h.block k hk (fun e => hk' (hS k e))⟩
theorem KpB.below {w w' : World} {S : List Nat} {B : Nat} (h : KpB w w' S) (hB : B ≤ w.heap.size) (hS : ∀ x ∈ S, B ≤ x) : Below B w w' :=
  ⟨h.os, h.tape, h.output, h.size, fun k hk => h.block k (Nat.lt_of_lt_of_le hk hB) (fun e => by have := hS k e; omega)⟩
theorem KpB.cell {w w' : World} {S : List Nat} (h : KpB w w' S) {p : Addr} {v : Value} (hc : w.cell? p = some v) (hp : p.block ∉ S) : w'.cell? p = some v := by
  rw [World.cell?_of_block (h.block p.block (World.block_lt_of_cell? w p hc) hp)]; exact hc
theorem KpB.range {w w' : World} {S : List Nat} (h : KpB w w' S) {b off : Nat} {cs : List Value} (hr : w.rangeAt b off cs) (hb : b ∉ S) : w'.rangeAt b off cs := fun j v hv => h.cell (hr j v hv) hb
theorem KpB.map {w w' : World} {S : List Nat} (h : KpB w w' S) {g : Nat} {F : List UInt8 → Option Value} {K : List (List UInt8)} (hm : MapV w g F K) (hg : g ∉ S) : MapV w' g F K := hm.keep (h.block g hm.lt hg)
theorem KpB.setCells {w : World} {g o : Nat} {vs : List Value} {S : List Nat} (hg : g ∈ S) : KpB w (w.setCells g o vs) S := by
  have : ∀ (vs : List Value) (o : Nat) (w' : World), KpB w w' S → KpB w (w'.setCells g o vs) S := fun vs => by
    induction vs with
    | nil => intro o w' h; exact h
    | cons v r ih =>
      intro o w' h
      refine ih (o + 1) _ (h.trans ⟨?_, ?_, ?_, ?_, fun k hk hS => Below.heap_setCell w' ⟨g, o, none⟩ v k (fun e => hS (by rw [e]; exact hg))⟩)
      all_goals
        have hb := (Below.refl g w').setCell (p := ⟨g, o, none⟩) (Nat.le_refl _) v
        first | exact hb.os | exact hb.tape | exact hb.output | exact hb.size
  exact this vs o w (KpB.refl _ _)
/-- A block that is a map holds no cells. -/
theorem map_no_cell {w : World} {g : Nat} {F : List UInt8 → Option Value} {K : List (List UInt8)} (h : MapV w g F K) {b off : Nat} {v : Value} (hc : w.cell? ⟨b, off, none⟩ = some v) : b ≠ g := fun e => by
  subst e
  obtain ⟨D, ⟨es, clock, hb, _⟩, _⟩ := h
  simp [World.cell?, hb] at hc

end Go.Proofs.Qxb6601415aMods
