import Derived.Test.Qxb6605559aModsJ
namespace Go.Proofs.Qxb6605559aMods
open Go.RowKit Go.Maps
set_option linter.unusedVariables false

/-- Block bm is the law's own map. -/
def OwnM (w : World) (bm : Nat) (D : DataW Unit) : Prop := w.ownsMap Trym.prog 23 (plainElem Trym.prog 26) bm (Maps.size D) D
theorem ownM_look {w : World} {bm : Nat} {D : DataW Unit} (h : OwnM w bm D) {n hh : Int} (hn : (Lit.int .u32 n).wf = true) (hw : (Lit.int .u8 hh).wf = true) :
    (Instr.lookup 34 (.map (some bm)) (.int .u64 (n * 256 + hh)) true).run Trym.prog w = .ok (.tuple #[.int .u32 (numAt D (k64 n hh)), .bool (Maps.has D (k64 n hh))]) w := by
  obtain ⟨v, ps, hr, hv⟩ := World.ownsMap.look_ok h law23 Trym.underlying34 (zero26 _) (plainElem_int Trym.underlying26 (by decide)) (k64_key hn hw)
  obtain ⟨c, rfl, hc, _⟩ := plainElem_int_inv Trym.underlying26 hv
  rw [hr, numAt_of (congrArg Prod.fst hc)]
theorem ownM_get {w : World} {bm : Nat} {D : DataW Unit} (h : OwnM w bm D) {n hh : Int} (hn : (Lit.int .u32 n).wf = true) (hw : (Lit.int .u8 hh).wf = true) :
    (Instr.lookup 34 (.map (some bm)) (.int .u64 (n * 256 + hh)) false).run Trym.prog w = .ok (.int .u32 (numAt D (k64 n hh))) w := by
  obtain ⟨c, hr, hc, _⟩ := World.ownsMap.lookup_int h law23 Trym.underlying34 Trym.underlying26 (zero26 _) (k64_key hn hw)
  rw [hr, numAt_of hc]
theorem ownM_num {w : World} {bm : Nat} {D : DataW Unit} (h : OwnM w bm D) {n hh : Int} (hn : (Lit.int .u32 n).wf = true) (hw : (Lit.int .u8 hh).wf = true) : 0 ≤ numAt D (k64 n hh) ∧ numAt D (k64 n hh) ≤ 4294967295 := by
  obtain ⟨c, hr, hc, hwc⟩ := World.ownsMap.lookup_int h law23 Trym.underlying34 Trym.underlying26 (zero26 _) (k64_key hn hw)
  rw [numAt_of hc]
  exact u32_bd hwc
theorem ownM_store {w : World} {bm : Nat} {D : DataW Unit} (h : OwnM w bm D) (hs : Maps.size D < 4294967296) {n hh sq : Int} (hn : (Lit.int .u32 n).wf = true) (hw : (Lit.int .u8 hh).wf = true) (hq : (Lit.int .u32 sq).wf = true) :
    ∃ w1, (Instr.mapUpdate 34 (.map (some bm)) (.int .u64 (n * 256 + hh)) (.int .u32 sq)).run Trym.prog w = .ok () w1 ∧ OwnM w1 bm (D.put (k64 n hh) (.lit (.int .u32 sq))) ∧ Kp w w1 (fun i => i = bm) := by
  obtain ⟨w1, hrun, hown1, hturn⟩ := World.ownsMap.store h law23 Trym.underlying34 (by unfold maxLen; omega) (k64_key hn hw) (plainElem_int Trym.underlying26 hq)
  exact ⟨w1, hrun, owns_tight hown1, (Kp.refl w _).grown hturn.grown (fun k hk _ => by cases hk; rfl)⟩
theorem ownM_len {w : World} {bm : Nat} {D : DataW Unit} (h : OwnM w bm D) (ty : TypeId) : (Builtin.len_ #[34] ty #[.map (some bm)]).run Trym.prog w = .ok (.int .i64 (Maps.size D)) w := World.ownsMap.len h Trym.underlying34 ty
theorem ownM_alloc {w : World} {bm : Nat} {D : DataW Unit} (h : OwnM w bm D) (o : Obj) : OwnM (w.alloc o) bm D := World.ownsMap.alloc h o
theorem Kp.ownM {a b : World} {S : Nat → Prop} (h : Kp a b S) {bm : Nat} {D : DataW Unit} (ho : OwnM a bm D) (hS : ¬ S bm) : OwnM b bm D := h.owns ho hS
theorem Kp.ofBelow {B : Nat} {a b : World} (k : Below B a b) : Kp a b (fun i => B ≤ i) := ⟨k.os, k.tape, k.output, k.size, fun i _ hn => k.block i (by omega)⟩
theorem Kp.row {a c : World} {S : Nat → Prop} (hk : Kp a c S) {b : Nat} {t : TypeId} {n : Nat} {f : Nat → Value} (h : a.rowIs b t n f) (hS : ¬ S b) : c.rowIs b t n f := h.of_block (hk.block b h.lt hS)

/-- An empty slice that is not nil. -/
theorem copyGroups_empty (x : Addr) (cap : Nat) (w : World) : Calls Trym.prog 20 #[.slice (some x) 0 cap] w fun er w' => er = .returned (.slice (some ⟨w.heap.size, 0, none⟩) 0 0) ∧ Below w.heap.size w w' := by
  have hnil := fun W : World => Lib.run_eql_slice_nil (P := Trym.prog) W 53 30 (some x) 0 cap 0 0 Trym.underlying53
  have hmk := make30 0 (by omega)
  simp only [Int.natCast_zero, Nat.zero_mul] at hmk
  go_enter Trym.func20, Trym.ntmps20
  go_wp2
  refine wp_loop_rounds 1 ?_
  rw [rounds_succ]
  go_wp2
  go_ret
  exact ⟨rfl, (Below.refl _ _).alloc (Nat.le_refl _) _⟩

theorem bytesRun_yes (a : Option Addr) (len cap : Nat) (w : World) (h : len ≤ 1048576) : Calls Trym.prog 19 #[.slice a len cap] w fun e w' => e = .returned (.bool true) ∧ w' = w := by
  refine (bytesRun_any a len cap w (by omega)).mono ?_
  rintro e w' ⟨rfl, rfl⟩
  exact ⟨by rw [decide_eq_true (by omega)], rfl⟩
theorem bytesRun_no (a : Option Addr) (len cap : Nat) (w : World) (h : 1048576 < len) (hm : len ≤ 9223372036854775807) : Calls Trym.prog 19 #[.slice a len cap] w fun e w' => e = .returned (.bool false) ∧ w' = w := by
  refine (bytesRun_any a len cap w hm).mono ?_
  rintro e w' ⟨rfl, rfl⟩
  exact ⟨by rw [decide_eq_false (by omega)], rfl⟩

/-- The law at a slice too long. -/
theorem run_long (a : Option Addr) (len cap : Nat) (w : World) (h : 65536 < len) (hm : len ≤ 9223372036854775807) :
    Calls Trym.prog 4 #[.slice a len cap] w fun er w' => er = .returned (.bool true) ∧ Below w.heap.size w w' := by
  have h1 : (65536 : Int) < len := by omega
  by_cases hb : len ≤ 1048576
  · go_enter Trym.func4, Trym.ntmps4
    go_wp2_with (go_at_call 19; refine (bytesRun_yes a len cap _ hb).mono ?_; rintro e w' ⟨rfl, rfl⟩)
    go_ret
    exact ⟨rfl, Below.refl _ _⟩
  · go_enter Trym.func4, Trym.ntmps4
    go_wp2_with (go_at_call 19; refine (bytesRun_no a len cap _ (by omega) hm).mono ?_; rintro e w' ⟨rfl, rfl⟩)
    go_ret
    exact ⟨rfl, Below.refl _ _⟩

theorem ctr_made (w : World) : Ctr (w.alloc (.cells #[.int .u64 0, .int .u64 0, .int .u64 0, .int .u64 0, .int .u64 0, .int .u64 0, .int .u64 0, .map none, .int .u32 0, .int .u8 0, .int .u32 0, .bool false] 60)) w.heap.size 0 0 0 0 0 0 0 (.map none) 0 0 0 false :=
  (MapKept.heap_alloc w _).1
theorem Ctr.below {B : Nat} {w w' : World} {b : Nat} {r t m u p l e : Int} {mv : Value} {nd hw sq : Int} {hc : Bool} (h : Ctr w b r t m u p l e mv nd hw sq hc) (hb : Below B w w') (hB : b < B) : Ctr w' b r t m u p l e mv nd hw sq hc := h.same (hb.block b hB)

/-- The law at an empty slice, nil or not. -/
theorem run_empty (a : Option Addr) (cap : Nat) (w : World) (ha : a = none → cap = 0) :
    Calls Trym.prog 4 #[.slice a 0 cap] w fun er w' => er = .returned (.bool true) ∧ Below w.heap.size w w' := by
  have hcopy : ∀ W : World, Calls Trym.prog 20 #[.slice a 0 cap] W fun er w' => ∃ a' c', er = .returned (.slice a' 0 c') ∧ Below W.heap.size W w' := by
    intro W
    cases a with
    | none => rw [ha rfl]; refine (copyGroups_nil W).mono ?_; rintro e w' ⟨rfl, rfl⟩; exact ⟨none, 0, rfl, Below.refl _ _⟩
    | some x => refine (copyGroups_empty x cap W).mono ?_; rintro e w' ⟨rfl, hb⟩; exact ⟨_, _, rfl, hb⟩
  have hmm := @run_makeMap Trym.prog
  have HC : Hid (∀ W : World, Calls Trym.prog 20 #[.slice a 0 cap] W fun er w' => ∃ a' c', er = .returned (.slice a' 0 c') ∧ Below W.heap.size W w') := hcopy
  clear hcopy
  go_enter Trym.func4, Trym.ntmps4
  go_wp2_with (first
    | (go_at_call 19; refine (bytesRun_yes a 0 cap _ (by omega)).mono ?_; rintro e w' ⟨rfl, hw'⟩; have hw2 := hw'.symm; clear hw'; subst hw2)
    | (go_at_call 20; refine (HC.out _).mono ?_; rintro e w1 ⟨a', c', rfl, hb1⟩))
  have C1 : Hid (Ctr ((w1.alloc (.cells #[.int .u64 0, .int .u64 0, .int .u64 0, .int .u64 0, .int .u64 0, .int .u64 0, .int .u64 0, .map none, .int .u32 0, .int .u8 0, .int .u32 0, .bool false] 60)).alloc (.map #[] 0)) w1.heap.size 0 0 0 0 0 0 0 (.map none) 0 0 0 false) := (ctr_made w1).alloc _
  have B1 : Hid (Below w.heap.size w ((w1.alloc (.cells #[.int .u64 0, .int .u64 0, .int .u64 0, .int .u64 0, .int .u64 0, .int .u64 0, .int .u64 0, .map none, .int .u32 0, .int .u8 0, .int .u32 0, .bool false] 60)).alloc (.map #[] 0))) := (hb1.alloc hb1.size _).alloc (by have := hb1.size; simp; omega) _
  have z1 := hb1.size
  clear hb1
  refine wp_loop_rounds 1 ?_
  rw [rounds_succ]
  go_wp2_with fail
  refine (zzStats_any _ _ _ _ _ _ _ _ _ _ _ _ _ _ C1.out).mono ?_
  rintro e w2 ⟨rfl, hb2⟩
  have C2 : Hid (Ctr w2 w1.heap.size 0 0 0 0 0 0 0 (.map none) 0 0 0 false) := C1.out.below hb2 (by simp; omega)
  have B2 : Hid (Below w.heap.size w w2) := B1.out.trans (hb2.mono (by simp; omega))
  have z2 : w1.heap.size < w2.heap.size := C2.out.lt
  clear C1 B1 hb2
  go_wp2_with fail
  refine (statsAre_any 0 0 0 0 0 0 0 0 0 _ (by decide)).mono ?_
  rintro e w3 ⟨rfl, hb3⟩
  have C3 : Hid (Ctr w3 w1.heap.size 0 0 0 0 0 0 0 (.map none) 0 0 0 false) := C2.out.below hb3 z2
  have B3 : Hid (Below w.heap.size w w3) := B2.out.trans (hb3.mono (by omega))
  have z3 : w1.heap.size < w3.heap.size := C3.out.lt
  clear C2 B2 hb3
  go_wp2_with fail
  refine (zzCurrent_any _ _ _ _ _ _ _ _ _ _ _ _ _ _ C3.out).mono ?_
  rintro e w4 ⟨rfl, hb4⟩
  have C4 : Hid (Ctr w4 w1.heap.size 0 0 0 0 0 0 0 (.map none) 0 0 0 false) := C3.out.below hb4 z3
  have B4 : Hid (Below w.heap.size w w4) := B3.out.trans (hb4.mono (by omega))
  clear C3 B3 hb4
  go_wp2_with fail
  refine (zzLastLen_any _ _ 0 (.map []) _ C4.out.last (Or.inl ⟨rfl, rfl⟩)).mono ?_
  rintro e w5 ⟨rfl, rfl⟩
  rw [show ((Maps.size (DataW.map [] : DataW Unit) : Nat) : Int) = 0 from rfl]
  go_wp2
  go_ret
  exact ⟨rfl, B4.out⟩

end Go.Proofs.Qxb6605559aMods
