import Derived.Test.Qxb6601415aModsP
import Derived.Laws.Tables
namespace Go.Proofs.Qxb6601415aMods
open Go.RowKit Go.Extern.Stop
set_option linter.unusedVariables false
set_option linter.unusedSimpArgs false
set_option maxRecDepth 20000

/-! ### A struct made of wide parts -/
def lay (cs : Array Value) (off : Nat) (vs : Array Value) : Array Value := vs.zipIdx.foldl (fun cs (c, j) => cs.setIfInBounds (off + j) c) cs

theorem lay_get (off i : Nat) : ∀ (vs : List Value) (m : Nat) (cs : Array Value), off + m + vs.length ≤ cs.size →
    ((vs.zipIdx m).foldl (fun cs (x : Value × Nat) => cs.setIfInBounds (off + x.2) x.1) cs)[i]? = if off + m ≤ i ∧ i < off + m + vs.length then vs[i - (off + m)]? else cs[i]?
  | [], m, cs, h => by
    rw [if_neg (by simp)]
    rfl
  | v :: r, m, cs, h => by
    simp only [List.length_cons] at h ⊢
    rw [List.zipIdx_cons, List.foldl_cons, lay_get off i r (m + 1) _ (by simp; omega)]
    by_cases h1 : i = off + m
    · subst h1
      rw [if_neg (by omega), if_pos (by omega), Nat.sub_self]
      simp only [List.getElem?_cons_zero]
      rw [Array.getElem?_setIfInBounds_self_of_lt (by omega)]
    · by_cases h2 : off + (m + 1) ≤ i ∧ i < off + (m + 1) + r.length
      · rw [if_pos h2, if_pos (by omega), show i - (off + m) = (i - (off + (m + 1))) + 1 by omega, List.getElem?_cons_succ]
      · rw [if_neg h2, if_neg (by omega), Array.getElem?_setIfInBounds_ne (by simp; omega)]

theorem lay_size (off : Nat) : ∀ (vs : List (Value × Nat)) (cs : Array Value), (vs.foldl (fun cs (x : Value × Nat) => cs.setIfInBounds (off + x.2) x.1) cs).size = cs.size
  | [], cs => rfl
  | v :: r, cs => by rw [List.foldl_cons, lay_size off r]; simp

theorem lay_eq (cs : Array Value) (off : Nat) (vs : Array Value) : lay cs off vs = (vs.toList.zipIdx 0).foldl (fun cs (x : Value × Nat) => cs.setIfInBounds (off + x.2) x.1) cs := by
  unfold lay
  rw [← Array.foldl_toList, Array.toList_zipIdx]

theorem size_lay (cs : Array Value) (off : Nat) (vs : Array Value) : (lay cs off vs).size = cs.size := by rw [lay_eq, lay_size]

theorem lay_take (cs : Array Value) (off : Nat) (vs : Array Value) (h : off + vs.size ≤ cs.size) : (lay cs off vs).toList.take (off + vs.size) = cs.toList.take off ++ vs.toList := by
  refine List.ext_getElem? (fun i => ?_)
  have hl : (cs.toList.take off).length = off := by simp; omega
  by_cases h1 : i < off + vs.size
  · rw [List.getElem?_take_of_lt h1, Array.getElem?_toList, lay_eq, lay_get off i _ 0 cs (by simpa using h)]
    by_cases h2 : i < off
    · rw [if_neg (by omega), List.getElem?_append_left (by omega), List.getElem?_take_of_lt h2, Array.getElem?_toList]
    · rw [if_pos (by simp; omega), List.getElem?_append_right (by omega), hl, Nat.add_zero]
  · rw [List.getElem?_take_eq_none (by omega), List.getElem?_eq_none (by simp; omega)]

theorem fill_cons {place : Nat → Option (Nat × Nat)} {cells : Array Value} {i off sz : Nat} {v : Value} {rest : List (Nat × Value)} (hp : place i = some (off, sz)) (hs : v.cells.size = sz) (hfit : off + sz ≤ cells.size) :
    Instr.fill place cells ((i, v) :: rest) = Instr.fill place (lay cells off v.cells) rest := by
  rw [Instr.fill, hp]
  simp only []
  rw [if_neg (by simp [hs]; omega)]
  rfl

theorem built_struct {t : TypeId} {fs : Array Field} {places : List (Nat × Nat)} {n : Nat} {parts : List (Nat × Value)} {C : Array Value} (hu : Trym.prog.underlying t = some (.struct fs)) (hp : fs.toList.mapM (fun f => (Trym.prog.info? f.type).map fun i => (f.offset, i.size)) = some places)
    (hz : (Trym.prog.info? t).map (fun i => i.zero.map (·.cells.size)) = some (some n)) (h : ∀ Z : Array Value, Z.size = n → Instr.fill (places.toArray[·]?) Z parts = some C) : Trym.prog.built t parts = some C := by
  obtain ⟨i, hi1, hi2⟩ := Option.map_eq_some_iff.1 hz
  obtain ⟨z, hz1, hz2⟩ := Option.map_eq_some_iff.1 hi2
  unfold Program.built
  simp only [hi1, hu, hz1, hp]
  exact h z.cells hz2

theorem fill5 {t : Tr} (ht : t.ok) (Z : Array Value) (hZ : Z.size = 43) : Instr.fill (([(0, 20), (20, 20), (40, 1), (41, 1), (42, 1)] : List (Nat × Nat)).toArray[·]?) Z
    [(0, .agg (idc t.id).toArray), (1, .agg (idc t.ag).toArray), (2, .int .i64 t.fo), (3, .int .i64 t.de), (4, .bool t.wa)] = some (trc t).toArray := by
  have h1 : (idc t.id).length = 20 := by rw [idc_length, ht.1]
  have h2 : (idc t.ag).length = 20 := by rw [idc_length, ht.2]
  have s1 : (Value.agg (idc t.id).toArray).cells.size = 20 := by simp [Value.cells, h1]
  have s2 : (Value.agg (idc t.ag).toArray).cells.size = 20 := by simp [Value.cells, h2]
  have s3 : (Value.int .i64 t.fo).cells.size = 1 := by simp [Value.cells]
  have s4 : (Value.int .i64 t.de).cells.size = 1 := by simp [Value.cells]
  have s5 : (Value.bool t.wa).cells.size = 1 := by simp [Value.cells]
  rw [fill_cons (off := 0) (sz := 20) rfl s1 (by omega), fill_cons (off := 20) (sz := 20) rfl s2 (by rw [size_lay]; omega), fill_cons (off := 40) (sz := 1) rfl s3 (by rw [size_lay, size_lay]; omega),
    fill_cons (off := 41) (sz := 1) rfl s4 (by rw [size_lay, size_lay, size_lay]; omega), fill_cons (off := 42) (sz := 1) rfl s5 (by rw [size_lay, size_lay, size_lay, size_lay]; omega), Instr.fill]
  refine congrArg some ?_
  have t1 := lay_take Z 0 (Value.agg (idc t.id).toArray).cells (by omega)
  have t2 := lay_take (lay Z 0 (Value.agg (idc t.id).toArray).cells) 20 (Value.agg (idc t.ag).toArray).cells (by rw [size_lay]; omega)
  have t3 := lay_take (lay (lay Z 0 (Value.agg (idc t.id).toArray).cells) 20 (Value.agg (idc t.ag).toArray).cells) 40 (Value.int .i64 t.fo).cells (by rw [size_lay, size_lay]; omega)
  have t4 := lay_take (lay (lay (lay Z 0 (Value.agg (idc t.id).toArray).cells) 20 (Value.agg (idc t.ag).toArray).cells) 40 (Value.int .i64 t.fo).cells) 41 (Value.int .i64 t.de).cells (by rw [size_lay, size_lay, size_lay]; omega)
  have t5 := lay_take (lay (lay (lay (lay Z 0 (Value.agg (idc t.id).toArray).cells) 20 (Value.agg (idc t.ag).toArray).cells) 40 (Value.int .i64 t.fo).cells) 41 (Value.int .i64 t.de).cells) 42 (Value.bool t.wa).cells (by rw [size_lay, size_lay, size_lay, size_lay]; omega)
  rw [s1] at t1; rw [s2] at t2; rw [s3] at t3; rw [s4] at t4; rw [s5] at t5
  simp only [Nat.zero_add, Nat.reduceAdd] at t1 t2 t3 t4 t5
  rw [t1] at t2; rw [t2] at t3; rw [t3] at t4; rw [t4] at t5
  refine Array.toList_inj.1 ?_
  rw [List.take_of_length_le (by rw [Array.length_toList, size_lay, size_lay, size_lay, size_lay, size_lay]; omega)] at t5
  rw [t5]
  simp [trc, Value.cells]

theorem build91 {t : Tr} (ht : t.ok) (w : World) : (Instr.build 91 #[(0, .agg (idc t.id).toArray), (1, .agg (idc t.ag).toArray), (2, .int .i64 t.fo), (3, .int .i64 t.de), (4, .bool t.wa)]).run Trym.prog w = .ok (.agg (trc t).toArray) w :=
  run_build w 91 _ _ (built_struct Trym.underlying91 (by kernel_rfl) (by kernel_rfl) (fill5 ht))
theorem build60 {t : Tr} (ht : t.ok) (w : World) : (Instr.build 60 #[(0, .agg (idc t.id).toArray), (1, .agg (idc t.ag).toArray), (2, .int .i64 t.fo), (3, .int .i64 t.de), (4, .bool t.wa)]).run Trym.prog w = .ok (.agg (trc t).toArray) w :=
  run_build w 60 _ _ (built_struct Trym.underlying60 (by kernel_rfl) (by kernel_rfl) (fill5 ht))

theorem fill2 (x : List UInt8) (hx : x.length = 20) (a : Option Addr) (n c : Nat) (Z : Array Value) (hZ : Z.size = 21) : Instr.fill (([(0, 20), (20, 1)] : List (Nat × Nat)).toArray[·]?) Z [(0, .agg (idc x).toArray), (1, .slice a n c)] = some (ent x (.slice a n c)).toArray := by
  have h1 : (idc x).length = 20 := by rw [idc_length, hx]
  have s1 : (Value.agg (idc x).toArray).cells.size = 20 := by simp [Value.cells, h1]
  have s2 : (Value.slice a n c).cells.size = 1 := by simp [Value.cells]
  rw [fill_cons (off := 0) (sz := 20) rfl s1 (by omega), fill_cons (off := 20) (sz := 1) rfl s2 (by rw [size_lay]; omega), Instr.fill]
  refine congrArg some ?_
  have t1 := lay_take Z 0 (Value.agg (idc x).toArray).cells (by omega)
  have t2 := lay_take (lay Z 0 (Value.agg (idc x).toArray).cells) 20 (Value.slice a n c).cells (by rw [size_lay]; omega)
  rw [s1] at t1; rw [s2] at t2
  simp only [Nat.zero_add, Nat.reduceAdd] at t1 t2
  rw [t1] at t2
  refine Array.toList_inj.1 ?_
  rw [List.take_of_length_le (by rw [Array.length_toList, size_lay, size_lay]; omega)] at t2
  rw [t2]
  simp [ent, Value.cells]
theorem build50 (x : List UInt8) (hx : x.length = 20) (a : Option Addr) (n c : Nat) (w : World) : (Instr.build 50 #[(0, .agg (idc x).toArray), (1, .slice a n c)]).run Trym.prog w = .ok (.agg (ent x (.slice a n c)).toArray) w :=
  run_build w 50 _ _ (built_struct Trym.underlying50 (by kernel_rfl) (by kernel_rfl) (fill2 x hx a n c))

section
variable {P : Program} {ops : Array Oper} {Q : Exit → Act → World → Prop} {S : World → Prop} {pl : Bool} {k : Nat} {o : Oper} {rest : List Oper} {a : Act} {w : World}
theorem lex_build (t : TypeId) (parts : Array (Nat × Operand)) (vs : Array (Nat × Value)) (r : Value) (hw : Region.wanted o (yielded ops a.tmps) = true) (ho : o.op = .build t parts) (hp : parts.toList.map (fun p => (p.1, a.eval p.2)) = vs.toList)
    (hr : ∀ w, (Instr.build t vs).run P w = .ok r w) (h : Lex P pl ops Q S (k + 1) rest (a.put o.dst r) w) : Lex P pl ops Q S k (o :: rest) a w :=
  lex_take hw (fun w _ => by
    have hp' : parts.map (fun (i, x) => (i, a.eval x)) = vs := Array.toList_inj.1 (by rw [Array.toList_map]; exact hp)
    unfold execOp
    simp only [ho, hp', Sem.run_bind, hr w, Result.andThen_ok, Sem.run_pure]) h
end

end Go.Proofs.Qxb6601415aMods
