import Derived.Test.Qxb6601415aModsG
namespace Go.Proofs.Qxb6601415aMods
open Go.RowKit Go.Extern.Stop
set_option linter.unusedVariables false

section
variable {P : Program} {ops : Array Oper} {Q : Exit → Act → World → Prop} {S : World → Prop} {pl : Bool} {k : Nat} {o : Oper} {rest : List Oper} {a : Act} {w : World}

theorem run_sizeOf {e : TypeId} {sz : Nat} (hi : (P.info? e).map (·.size) = some sz) (w : World) : (sizeOf e).run P w = .ok sz w := by
  cases hq : P.info? e with
  | none => simp [hq] at hi
  | some i =>
    have hs : i.size = sz := by simpa [hq] using hi
    simp [sizeOf, typeInfo, hq, hs]

theorem run_index {t e : TypeId} {b off len cap n sz : Nat} (hk : n < len) (ht : P.underlying t = some (.slice e)) (hi : (P.info? e).map (·.size) = some sz) (w : World) :
    (Instr.indexAt t (.slice (some ⟨b, off, none⟩) len cap) (.int .i64 (n : Int))).run P w = .ok (.pointer (some ⟨b, off + n * sz, none⟩)) w := by
  have hn : (0 : Int) ≤ (n : Int) ∧ (n : Int) < (len : Int) := by omega
  simp [Instr.indexAt, run_underlying ht, asIntOf, Sem.run_bind, hn, run_sizeOf hi, Addr.add_mid]
  intro h; omega

theorem lex_index (t e : TypeId) (x ix : Operand) (b off len cap n sz : Nat) (hw : Region.wanted o (yielded ops a.tmps) = true) (ho : o.op = .indexAddr t x ix) (hx : a.eval x = .slice (some ⟨b, off, none⟩) len cap) (hix : a.eval ix = .int .i64 (n : Int)) (hk : n < len)
    (ht : P.underlying t = some (.slice e)) (hi : (P.info? e).map (·.size) = some sz)
    (h : Lex P pl ops Q S (k + 1) rest (a.put o.dst (.pointer (some ⟨b, off + n * sz, none⟩))) w) : Lex P pl ops Q S k (o :: rest) a w :=
  lex_take hw (fun w _ => by
    unfold execOp
    simp only [ho, hx, hix, Sem.run_bind, run_index hk ht hi w, Result.andThen_ok, Sem.run_pure]) h

theorem run_field {s : TypeId} {f b off sz : Nat} {fs : Array Field} {fd : Field} (hs : P.underlying s = some (.struct fs)) (hf : fs[f]? = some fd) (hz : (P.info? fd.type).map (·.size) = some (sz + 1)) (w : World) :
    (Instr.fieldAt s (.pointer (some ⟨b, off, none⟩)) f).run P w = .ok (.pointer (some ⟨b, off + fd.offset, none⟩)) w := by
  simp [Instr.fieldAt, run_underlying hs, hf, Instr.sureAddr, fieldPlace, run_sizeOf hz, Sem.run_bind, Addr.add_mid]

theorem lex_field (s : TypeId) (x : Operand) (f b off fo : Nat) (fs : Array Field) (fd : Field) {sz : Nat} (hw : Region.wanted o (yielded ops a.tmps) = true) (ho : o.op = .fieldAddr s x f) (hx : a.eval x = .pointer (some ⟨b, off, none⟩))
    (hs : P.underlying s = some (.struct fs)) (hf : fs[f]? = some fd) (hz : (P.info? fd.type).map (·.size) = some (sz + 1))
    (hfo : fd.offset = fo) (h : Lex P pl ops Q S (k + 1) rest (a.put o.dst (.pointer (some ⟨b, off + fo, none⟩))) w) : Lex P pl ops Q S k (o :: rest) a w :=
  lex_take hw (fun w _ => by
    unfold execOp
    simp only [ho, hx, Sem.run_bind, run_field hs hf hz w, Result.andThen_ok, Sem.run_pure, hfo]) h

/-- A load of one cell. -/
theorem lex_load1 (ty : TypeId) (x : Operand) (b off : Nat) (v : Value) (hw : Region.wanted o (yielded ops a.tmps) = true) (ho : o.op = .load ty x) (hx : a.eval x = .pointer (some ⟨b, off, none⟩))
    (hS : ∀ w, S w → w.cell? ⟨b, off, none⟩ = some v) (hg : ∀ w, (isAgg ty).run P w = .ok false w)
    (h : Lex P pl ops Q S (k + 1) rest (a.put o.dst v) w) : Lex P pl ops Q S k (o :: rest) a w :=
  lex_take hw (fun w hw' => by
    unfold execOp
    simp only [ho, hx]
    simp [go_sem, hg w, hS w hw']) h
end

/-! ### This program's wide types -/
theorem i34 : (Trym.prog.info? 34).map (·.size) = some 20 := by kernel_rfl
theorem i70 : (Trym.prog.info? 70).map (·.size) = some 20 := by kernel_rfl
theorem i50 : (Trym.prog.info? 50).map (·.size) = some 21 := by kernel_rfl
theorem i77 : (Trym.prog.info? 77).map (·.size) = some 21 := by kernel_rfl
theorem i60 : (Trym.prog.info? 60).map (·.size) = some 43 := by kernel_rfl
theorem i91 : (Trym.prog.info? 91).map (·.size) = some 43 := by kernel_rfl

/-- The cells of an id. -/
def idc (x : List UInt8) : List Value := x.map cell
theorem idc_length (x : List UInt8) : (idc x).length = x.length := by simp [idc]
theorem idc_one (x : List UInt8) : ∀ v ∈ idc x, v.oneCell' = true := by
  intro v hv
  simp only [idc, List.mem_map] at hv
  obtain ⟨y, _, rfl⟩ := hv
  rfl
theorem eql34 (x y : List UInt8) (hx : x.length = 20) (hy : y.length = 20) (w : World) : (binOp .eql 34 (.agg (idc x).toArray) (.agg (idc y).toArray)).run Trym.prog w = .ok (.bool (x == y)) w :=
  run_eql_bytes w 34 5 20 Trym.underlying34 Trym.underlying5 (fun w => Trym.sizeOf5 w) x y hx hy
theorem neq34 (x y : List UInt8) (hx : x.length = 20) (hy : y.length = 20) (w : World) : (binOp .neq 34 (.agg (idc x).toArray) (.agg (idc y).toArray)).run Trym.prog w = .ok (.bool (!(x == y))) w := by
  have h := eql34 x y hx hy w
  rw [run_eql_struct] at h
  rw [run_neq_struct]
  cases hq : (Op.equalIn 10000 34 (.agg (idc x).toArray) (.agg (idc y).toArray)).run Trym.prog w with
  | ok r w' => rw [hq] at h; simp only [Result.andThen_ok] at h ⊢; cases h; rfl
  | halt r w' => rw [hq] at h; simp [Result.andThen] at h
theorem guard34 (op : BinOp) (x y : Operand) (u v : Array Value) (w : World) : (eqGuard op 34 x y (.agg u) (.agg v)).run Trym.prog w = .ok () w := run_eqGuard_agg w op 34 x y u v Trym.eqGuardType34

/-- A row of n wide elements. -/
def WRow (w : World) (b off n sz : Nat) (f : Nat → List Value) : Prop := ∀ i, i < n → w.rangeAt b (off + i * sz) (f i)

theorem rangeAt_below {B b off : Nat} {cs : List Value} {w w' : World} (h : Below B w w') (hb : b < B) (hr : w.rangeAt b off cs) : w'.rangeAt b off cs := fun j v hv => (h.cell (p := ⟨b, off + j, none⟩) hb).trans (hr j v hv)
theorem WRow.below {B b off n sz : Nat} {f : Nat → List Value} {w w' : World} (h : WRow w b off n sz f) (hB : Below B w w') (hb : b < B) : WRow w' b off n sz f := fun i hi => rangeAt_below hB hb (h i hi)

theorem rangeAt_lt {w : World} {b o : Nat} {cs : List Value} (h : w.rangeAt b o cs) (hc : 0 < cs.length) : b < w.heap.size := by
  cases cs with
  | nil => simp at hc
  | cons v r => exact World.block_lt_of_cell? w _ (h 0 v rfl)
theorem rangeAt_left {w : World} {b o : Nat} {xs ys : List Value} (h : w.rangeAt b o (xs ++ ys)) : w.rangeAt b o xs := fun j v hv => h j v (by
  have hj : j < xs.length := (List.getElem?_eq_some_iff.1 hv).1
  rw [List.getElem?_append_left hj]; exact hv)
theorem rangeAt_right {w : World} {b o n : Nat} {xs ys : List Value} (h : w.rangeAt b o (xs ++ ys)) (hn : xs.length = n) : w.rangeAt b (o + n) ys := fun j v hv => by
  have := h (n + j) v (by rw [List.getElem?_append_right (by omega)]; rw [show n + j - xs.length = j by omega]; exact hv)
  rw [Nat.add_assoc]; exact this
theorem rangeAt_head {w : World} {b o : Nat} {v : Value} {ys : List Value} (h : w.rangeAt b o (v :: ys)) : w.cell? ⟨b, o, none⟩ = some v := h 0 v rfl
theorem rangeAt_tail {w : World} {b o : Nat} {v : Value} {ys : List Value} (h : w.rangeAt b o (v :: ys)) : w.rangeAt b (o + 1) ys := fun j u hu => by
  have := h (j + 1) u (by simpa using hu)
  rw [show o + 1 + j = o + (j + 1) by omega]; exact this
theorem rangeAt_app {w : World} {b o n : Nat} {xs ys : List Value} (h : w.rangeAt b o xs) (hn : xs.length = n) (h' : w.rangeAt b (o + n) ys) : w.rangeAt b o (xs ++ ys) := fun j v hv => by
  by_cases hj : j < xs.length
  · rw [List.getElem?_append_left hj] at hv; exact h j v hv
  · rw [List.getElem?_append_right (by omega)] at hv
    have := h' (j - xs.length) v hv
    rw [show o + n + (j - xs.length) = o + j by omega] at this; exact this
theorem rangeAt_one {w : World} {b o : Nat} {v : Value} (h : w.cell? ⟨b, o, none⟩ = some v) : w.rangeAt b o [v] := fun j u hu => by
  cases j with
  | zero => simp at hu; subst hu; exact h
  | succ j => simp at hu

/-- A slice (or nil) of n wide elements. -/
def SlV (w : World) (v : Value) (n sz : Nat) (f : Nat → List Value) : Prop :=
  (v = .slice none 0 0 ∧ n = 0) ∨ ∃ b off cap, v = .slice (some ⟨b, off, none⟩) n cap ∧ WRow w b off n sz f

/-- A box of a wide value. -/
theorem rangeAt_new (w : World) (cs : List Value) (t : TypeId) : (w.alloc (.cells cs.toArray t)).rangeAt w.heap.size 0 cs := fun j v hv => by
  have := cell_of_row (w.alloc (.cells cs.toArray t)) w.heap.size (0 + j) cs.toArray t _ (heap_alloc_new w _)
  rw [this]
  simpa using hv

def hasId (ids : Nat → List UInt8) (x : List UInt8) (n : Nat) : Bool := (List.range n).any (fun i => ids i == x)

end Go.Proofs.Qxb6601415aMods
