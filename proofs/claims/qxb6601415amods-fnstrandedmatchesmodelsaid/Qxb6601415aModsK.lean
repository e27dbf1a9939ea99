import Derived.Test.Qxb6601415aModsJ
namespace Go.Proofs.Qxb6601415aMods
open Go.RowKit Go.Extern.Stop
set_option linter.unusedVariables false
set_option maxRecDepth 20000

/-- A tree put off. -/
structure Tr where
  id : List UInt8
  ag : List UInt8
  fo : Int
  de : Int
  wa : Bool
def Tr.ok (t : Tr) : Prop := t.id.length = 20 ∧ t.ag.length = 20
def trc (t : Tr) : List Value := idc t.id ++ (idc t.ag ++ [.int .i64 t.fo, .int .i64 t.de, .bool t.wa])
theorem trc_length {t : Tr} (h : t.ok) : (trc t).length = 43 := by simp [trc, idc_length, h.1, h.2]
theorem trc_one (t : Tr) : ∀ v ∈ trc t, v.oneCell' = true := by
  intro v hv
  simp only [trc, List.mem_append, List.mem_cons, List.not_mem_nil, or_false] at hv
  rcases hv with hv | hv | rfl | rfl | rfl
  · exact idc_one _ v hv
  · exact idc_one _ v hv
  · rfl
  · rfl
  · rfl

theorem trc_parts {t : Tr} (h : t.ok) : (trc t).toArray.extract 0 20 = (idc t.id).toArray ∧ (trc t).toArray.extract 20 40 = (idc t.ag).toArray ∧ (trc t).toArray[40]? = some (.int .i64 t.fo) ∧ (trc t).toArray[41]? = some (.int .i64 t.de) ∧ (trc t).toArray[42]? = some (.bool t.wa) := by
  have h1 : (idc t.id).length = 20 := by rw [idc_length, h.1]
  have h2 : (idc t.ag).length = 20 := by rw [idc_length, h.2]
  refine ⟨?_, ?_, ?_, ?_, ?_⟩
  · simp [trc, List.extract, h1]
  · simp [trc, List.extract, h1, h2]
  · simp [trc, h1, h2]
  · simp [trc, h1, h2]
  · simp [trc, h1, h2]

theorem guard60 (op : BinOp) (x y : Operand) (u v : Array Value) (w : World) : (eqGuard op 60 x y (.agg u) (.agg v)).run Trym.prog w = .ok () w := run_eqGuard_agg w op 60 x y u v Trym.eqGuardType60

theorem eq60 {t : Tr} (h : t.ok) (w : World) (d : Nat) : (Op.equalIn (d + 3) 60 (.agg (trc t).toArray) (.agg (trc t).toArray)).run Trym.prog w = .ok true w := by
  obtain ⟨p1, p2, p3, p4, p5⟩ := trc_parts h
  have e34 : ∀ x : List UInt8, x.length = 20 → (Op.equalIn (d + 2) 34 (.agg (idc x).toArray) (.agg (idc x).toArray)).run Trym.prog w = .ok true w := fun x hx => by
    have := run_equalIn_bytes (P := Trym.prog) w d 34 5 20 Trym.underlying34 Trym.underlying5 (fun w => Trym.sizeOf5 w) x x hx hx
    rw [beq_self_eq_true] at this
    exact this
  have a1 : (part 34 (trc t).toArray 0).run Trym.prog w = .ok (.agg (idc t.id).toArray) w := by
    simp only [part, Sem.run_bind, Trym.isAgg34, Result.andThen_ok, if_true, Trym.sizeOf34, Sem.run_pure, Nat.zero_add, p1]
  have a2 : (part 34 (trc t).toArray 20).run Trym.prog w = .ok (.agg (idc t.ag).toArray) w := by
    simp only [part, Sem.run_bind, Trym.isAgg34, Result.andThen_ok, if_true, Trym.sizeOf34, Sem.run_pure, p2]
  have a3 : (part 3 (trc t).toArray 40).run Trym.prog w = .ok (.int .i64 t.fo) w := by
    simp only [part, Sem.run_bind, Trym.isAgg3, Result.andThen_ok, Bool.false_eq_true, if_false, p3, Sem.run_pure]
  have a4 : (part 3 (trc t).toArray 41).run Trym.prog w = .ok (.int .i64 t.de) w := by
    simp only [part, Sem.run_bind, Trym.isAgg3, Result.andThen_ok, Bool.false_eq_true, if_false, p4, Sem.run_pure]
  have a5 : (part 4 (trc t).toArray 42).run Trym.prog w = .ok (.bool t.wa) w := by
    simp only [part, Sem.run_bind, Trym.isAgg4, Result.andThen_ok, Bool.false_eq_true, if_false, p5, Sem.run_pure]
  have e3 : ∀ z : Int, (Op.equalIn (d + 2) 3 (.int .i64 z) (.int .i64 z)).run Trym.prog w = .ok true w := fun z => by
    rw [run_equalIn_int w (d + 1) 3 .i64 .i64 _ _ Trym.underlying3, beq_self_eq_true]
  have e4 : ∀ z : Bool, (Op.equalIn (d + 2) 4 (.bool z) (.bool z)).run Trym.prog w = .ok true w := fun z => by
    rw [run_equalIn_bool' w (d + 1) 4 _ _ Trym.underlying4, beq_self_eq_true]
  have e34a := e34 _ h.1
  have e34b := e34 _ h.2
  rw [run_equalIn_struct w (d + 2) 60 _ _ (by rw [Program.fieldsOf, Trym.underlying60]) Trym.stoodInHeld60]
  generalize (trc t).toArray = A at *
  have f1 : ∀ (f : Field) (fs : List Field) (u : Value), f.name ≠ "_" → (part f.type A f.offset).run Trym.prog w = .ok u w → (Op.equalIn (d + 2) f.type u u).run Trym.prog w = .ok true w →
      (Op.eqFields (d + 2) A A (f :: fs)).run Trym.prog w = (Op.eqFields (d + 2) A A fs).run Trym.prog w := fun f fs u hn hp he => by
    rw [Op.eqFields, if_pos hn]
    simp only [Sem.run_bind, hp, Result.andThen_ok, he, Bool.not_true, Bool.false_eq_true, if_false]
  have hfs : ∃ f0 f1 f2 f3 f4 : Field, (Trym.prog.fieldsOf 60).toList = [f0, f1, f2, f3, f4] ∧ (f0.name ≠ "_" ∧ f0.type = 34 ∧ f0.offset = 0) ∧ (f1.name ≠ "_" ∧ f1.type = 34 ∧ f1.offset = 20) ∧ (f2.name ≠ "_" ∧ f2.type = 3 ∧ f2.offset = 40) ∧ (f3.name ≠ "_" ∧ f3.type = 3 ∧ f3.offset = 41) ∧ (f4.name ≠ "_" ∧ f4.type = 4 ∧ f4.offset = 42) := by
    rw [Program.fieldsOf, Trym.underlying60]
    exact ⟨_, _, _, _, _, rfl, ⟨by decide, rfl, rfl⟩, ⟨by decide, rfl, rfl⟩, ⟨by decide, rfl, rfl⟩, ⟨by decide, rfl, rfl⟩, ⟨by decide, rfl, rfl⟩⟩
  obtain ⟨f0, f1', f2, f3, f4, hl, ⟨n0, t0, o0⟩, ⟨n1, t1, o1⟩, ⟨n2, t2, o2⟩, ⟨n3, t3, o3⟩, ⟨n4, t4, o4⟩⟩ := hfs
  rw [hl, f1 f0 _ _ n0 (by rw [t0, o0]; exact a1) (by rw [t0]; exact e34a), f1 f1' _ _ n1 (by rw [t1, o1]; exact a2) (by rw [t1]; exact e34b), f1 f2 _ _ n2 (by rw [t2, o2]; exact a3) (by rw [t2]; exact e3 _),
    f1 f3 _ _ n3 (by rw [t3, o3]; exact a4) (by rw [t3]; exact e3 _), f1 f4 _ _ n4 (by rw [t4, o4]; exact a5) (by rw [t4]; exact e4 _)]
  rfl

theorem neq60 {t : Tr} (h : t.ok) (w : World) : (binOp .neq 60 (.agg (trc t).toArray) (.agg (trc t).toArray)).run Trym.prog w = .ok (.bool false) w := by
  rw [run_neq_struct, eq60 h w 9997]
  rfl

/-- A slice of trees. -/
def TreesV (w : World) (v : Value) (n : Nat) (ts : Nat → Tr) : Prop := SlV w v n 43 (fun i => trc (ts i)) ∧ ∀ i, i < n → (ts i).ok

end Go.Proofs.Qxb6601415aMods
