import Derived.Test.Qxb6605559aModsB
import Derived.RegionTactic
import Derived.BigRegion
namespace Go.Proofs.Qxb6605559aMods
open Go.RowKit Go.Maps
set_option linter.unusedVariables false

/-- w' is w but for new blocks and for what lies in the blocks of S. -/
structure Kp (w w' : World) (S : Nat → Prop) : Prop where
  os : w'.os = w.os
  tape : w'.tape = w.tape
  output : w'.output = w.output
  size : w.heap.size ≤ w'.heap.size
  block : ∀ k, k < w.heap.size → ¬ S k → w'.heap[k]? = w.heap[k]?

theorem Kp.refl (w : World) (S : Nat → Prop) : Kp w w S := ⟨rfl, rfl, rfl, Nat.le_refl _, fun _ _ _ => rfl⟩
theorem Kp.trans {a b c : World} {S : Nat → Prop} (h : Kp a b S) (k : Kp b c S) : Kp a c S :=
  ⟨k.os.trans h.os, k.tape.trans h.tape, k.output.trans h.output, Nat.le_trans h.size k.size, fun i hi hn => (k.block i (Nat.lt_of_lt_of_le hi h.size) hn).trans (h.block i hi hn)⟩
theorem Kp.mono {a b : World} {S T : Nat → Prop} (h : Kp a b S) (hs : ∀ i, i < a.heap.size → S i → T i) : Kp a b T :=
  ⟨h.os, h.tape, h.output, h.size, fun i hi hn => h.block i hi (fun hS => hn (hs i hi hS))⟩
/-- A step behind a step: what the second may turn is new since a, or among S. -/
theorem Kp.next {a b c : World} {S T : Nat → Prop} (h : Kp a b S) (k : Kp b c T) (hs : ∀ i, i < a.heap.size → T i → S i) : Kp a c S :=
  ⟨k.os.trans h.os, k.tape.trans h.tape, k.output.trans h.output, Nat.le_trans h.size k.size, fun i hi hn => (k.block i (Nat.lt_of_lt_of_le hi h.size) (fun hT => hn (hs i hi hT))).trans (h.block i hi hn)⟩
theorem Kp.alloc {a b : World} {S : Nat → Prop} (h : Kp a b S) (o : Obj) : Kp a (b.alloc o) S :=
  h.trans ⟨rfl, rfl, rfl, by simp, fun i hi _ => Below.heap_alloc _ _ _ hi⟩
theorem Kp.drewN {a b : World} {S : Nat → Prop} (h : Kp a b S) (n : Nat) : Kp a (b.drewN n) S := ⟨h.os, h.tape, h.output, h.size, h.block⟩
theorem Kp.drew {a b : World} {S : Nat → Prop} (h : Kp a b S) : Kp a b.drew S := ⟨h.os, h.tape, h.output, h.size, h.block⟩
theorem Kp.setCell {a b : World} {S : Nat → Prop} (h : Kp a b S) {p : Addr} (hp : p.block < a.heap.size → S p.block) (u : Value) : Kp a (b.setCell p u) S :=
  h.next (T := fun i => i = p.block) ⟨rfl, rfl, rfl, by simp [World.setCell], fun i _ hn => Below.heap_setCell _ _ _ _ hn⟩ (fun i hi e => by subst e; exact hp hi)
theorem Kp.grown {a b c : World} {S : Nat → Prop} {row : Option Nat} (h : Kp a b S) (hg : b.grownBy c row) (hr : ∀ k, row = some k → k < a.heap.size → S k) : Kp a c S :=
  h.next (T := fun i => row = some i) ⟨hg.os, hg.tape, hg.output, hg.size, fun i hi hn => hg.block i hi (fun e => hn e.symm)⟩ (fun i hi e => hr i e hi)
theorem Kp.below {B : Nat} {a b c : World} {S : Nat → Prop} (h : Kp a b S) (k : Below B b c) (hB : ∀ i, i < a.heap.size → B ≤ i → S i) : Kp a c S :=
  h.next (T := fun i => B ≤ i) ⟨k.os, k.tape, k.output, k.size, fun i _ hn => k.block i (by omega)⟩ hB
theorem Kp.toBelow {B : Nat} {a b c : World} {S : Nat → Prop} (h : Below B a b) (k : Kp b c S) (hB : B ≤ b.heap.size) (hS : ∀ i, i < B → ¬ S i) : Below B a c :=
  h.trans ⟨k.os, k.tape, k.output, k.size, fun i hi => k.block i (by omega) (hS i hi)⟩
theorem Kp.owns {a b : World} {S : Nat → Prop} (h : Kp a b S) {k : TypeId} {R : Value → Option (DataW Unit × List MemPlace)} {bl n : Nat} {D : DataW Unit} (ho : a.ownsMap Trym.prog k R bl n D) (hS : ¬ S bl) : b.ownsMap Trym.prog k R bl n D := by
  have hlt := ho.lt
  obtain ⟨es, clock, hb, r⟩ := ho
  exact ⟨es, clock, (h.block bl hlt hS).trans hb, r⟩
theorem Kp.ctr {a c : World} {S : Nat → Prop} (hk : Kp a c S) {b : Nat} {r t m u p l e : Int} {mv : Value} {nd hw sq : Int} {hc : Bool} (h : Ctr a b r t m u p l e mv nd hw sq hc) (hS : ¬ S b) : Ctr c b r t m u p l e mv nd hw sq hc :=
  h.same (hk.block b h.lt hS)

theorem owns_tight {w : World} {P : Program} {k : TypeId} {R : Value → Option (DataW Unit × List MemPlace)} {b n : Nat} {D : DataW Unit} (h : w.ownsMap P k R b n D) : w.ownsMap P k R b (Maps.size D) D := by
  obtain ⟨es, clock, hb, F, hs, rfl⟩ := h
  exact ⟨es, clock, hb, F, by simp [Maps.size, length_sorted], rfl⟩

/-- Block bl is the map of sources D. -/
def Own (w : World) (bl : Nat) (D : DataW Unit) : Prop := w.ownsMap Trym.prog 58 (plainElem Trym.prog 26) bl (Maps.size D) D

theorem ctr_ne_own {w : World} {b : Nat} {r t m u p l e : Int} {mv : Value} {nd hw sq : Int} {hc : Bool} {bl : Nat} {D : DataW Unit} (h : Ctr w b r t m u p l e mv nd hw sq hc) (ho : Own w bl D) : b ≠ bl := by
  obtain ⟨es, clock, hb, _⟩ := ho
  rintro rfl
  unfold Ctr at h
  rw [hb] at h
  cases h

theorem Ctr.setLast {w : World} {b : Nat} {r t m u p l e : Int} {mv : Value} {nd hw sq : Int} {hc : Bool} (h : Ctr w b r t m u p l e mv nd hw sq hc) (v : Value) : Ctr (w.setCell ⟨b, 7, none⟩ v) b r t m u p l e v nd hw sq hc := by
  unfold Ctr at h ⊢
  simp [World.setCell, Array.getElem?_modify, h]

/-- What 'remember' leaves. -/
def Remembered (D : DataW Unit) (n h sq : Int) (D' : DataW Unit) : Prop :=
  ((Maps.size D < 65536 ∨ Maps.has D (sk n h) = true) ∧ D' = D.put (sk n h) (.lit (.int .u32 sq))) ∨
  (65536 ≤ Maps.size D ∧ Maps.has D (sk n h) = false ∧ ∃ n' h', (Lit.int .u32 n').wf = true ∧ (Lit.int .u8 h').wf = true ∧ Maps.has D (sk n' h') = true ∧ D' = (D.del (sk n' h')).put (sk n h) (.lit (.int .u32 sq)))

set_option maxHeartbeats 400000 in
set_option maxRecDepth 100000 in
theorem remember_room (b bl : Nat) (D : DataW Unit) (n h sq : Int) (w : World) (c7 : w.cell? ⟨b, 7, none⟩ = some (.map (some bl))) (hown : Own w bl D)
    (hs : Maps.size D < 65536) (hb : b < w.heap.size)
    (hn : (Lit.int .u32 n).wf = true) (hh : (Lit.int .u8 h).wf = true) (hq : (Lit.int .u32 sq).wf = true) :
    Calls Trym.prog 29 #[.pointer (some ⟨b, 0, none⟩), .agg #[.int .u32 n, .int .u8 h], .int .u32 sq] w fun e w' => e = .returned (.tuple #[]) ∧
      Own w' bl (D.put (sk n h) (.lit (.int .u32 sq))) ∧ Kp w w' (fun i => i = bl) := by
  have hkey := sk_key hn hh
  have hnil := fun W : World => run_eql_map_nil (P := Trym.prog) W 56 58 26 (some bl) Trym.underlying56
  obtain ⟨w1, hrun, hown1, hturn⟩ := World.ownsMap.store ((hown.alloc (.cells #[.int .u32 n, .int .u8 h] 58)).drew) law58 Trym.underlying56 (by unfold maxLen; omega) hkey (plainElem_int Trym.underlying26 hq)
  have hlen := fun ty => (hown.alloc (.cells #[.int .u32 n, .int .u8 h] 58)).len Trym.underlying56 ty
  have hs' : ((Maps.size D : Nat) : Int) < 65536 := by omega
  generalize ((Maps.size D : Nat) : Int) = sz at hlen hs'
  have R1 : Hid (Own w1 bl (D.put (sk n h) (.lit (.int .u32 sq))) ∧ Kp w w1 (fun i => i = bl)) := ⟨owns_tight hown1, (((Kp.refl w _).alloc _).drew).grown hturn.grown (fun k hk _ => by cases hk; rfl)⟩
  clear hkey hown hs hown1 hturn
  go_enter Trym.func29, Trym.ntmps29
  go_wp2
  go_region
  go_wp2
  go_end0
  exact ⟨rfl, R1.out⟩

set_option maxHeartbeats 400000 in
set_option maxRecDepth 100000 in
theorem remember_nil (b : Nat) (r t m u p l e : Int) (nd hw q : Int) (hc : Bool) (n h sq : Int) (w : World) (hctr : Ctr w b r t m u p l e (.map none) nd hw q hc)
    (hn : (Lit.int .u32 n).wf = true) (hh : (Lit.int .u8 h).wf = true) (hq : (Lit.int .u32 sq).wf = true) :
    Calls Trym.prog 29 #[.pointer (some ⟨b, 0, none⟩), .agg #[.int .u32 n, .int .u8 h], .int .u32 sq] w fun er w' => er = .returned (.tuple #[]) ∧
      ∃ bl, w.heap.size ≤ bl ∧ Ctr w' b r t m u p l e (.map (some bl)) nd hw q hc ∧ Own w' bl ((DataW.map []).put (sk n h) (.lit (.int .u32 sq))) ∧ Kp w w' (fun i => i = b) := by
  have hkey := sk_key hn hh
  have c7 := hctr.last
  have f7 := hctr.frozen
  have hb := hctr.lt
  have hmm := @run_makeMap Trym.prog
  have hnil := fun W : World => run_eql_map_nil (P := Trym.prog) W 56 58 26 none Trym.underlying56
  have hmade : ((((w.setCell ⟨b, 7, none⟩ (.map (some (w.heap.size + 1)))).alloc (.cells #[.int .u32 n, .int .u8 h] 58)).alloc (.map #[] 0))).ownsMap Trym.prog 58 (plainElem Trym.prog 26) (w.heap.size + 1) 0 (.map [] : DataW Unit) := by
    have := World.ownsMap_made (H := Unit) ((w.setCell ⟨b, 7, none⟩ (.map (some (w.heap.size + 1)))).alloc (.cells #[.int .u32 n, .int .u8 h] 58)) Trym.prog 58 (plainElem Trym.prog 26)
    simpa using this
  have hlen := fun ty => hmade.len Trym.underlying56 ty
  obtain ⟨w1, hrun, hown1, hturn⟩ := World.ownsMap.store hmade.drew law58 Trym.underlying56 (by unfold maxLen; omega) hkey (plainElem_int Trym.underlying26 hq)
  have k1 : Kp w w1 (fun i => i = b) := ((((((Kp.refl w (fun i => i = b)).setCell (fun _ => rfl) _).alloc _).alloc _).drew).grown hturn.grown (fun k hk hlt => by cases hk; omega))
  have k2 := hturn.grown
  have R1 : Hid (Ctr w1 b r t m u p l e (.map (some (w.heap.size + 1))) nd hw q hc ∧ Own w1 (w.heap.size + 1) ((DataW.map []).put (sk n h) (.lit (.int .u32 sq))) ∧ Kp w w1 (fun i => i = b)) := by
    refine ⟨(hctr.setLast _).same ?_, owns_tight hown1, k1⟩
    rw [k2.block b (by simp; omega) (by simp; omega)]
    show ((((w.setCell ⟨b, 7, none⟩ (.map (some (w.heap.size + 1)))).alloc (.cells #[.int .u32 n, .int .u8 h] 58)).alloc (.map #[] 0))).heap[b]? = _
    rw [Below.heap_alloc _ _ _ (by simp; omega), Below.heap_alloc _ _ _ (by simp; omega)]
  rw [show Maps.size (DataW.map [] : DataW Unit) = 0 from rfl] at hlen
  clear hkey hmade hown1 hturn k1 k2 hctr
  go_enter Trym.func29, Trym.ntmps29
  go_wp2
  go_region
  go_wp2
  go_end0
  exact ⟨rfl, _, by omega, R1.out⟩

theorem own_drewN {w : World} {bl : Nat} {D : DataW Unit} (h : Own w bl D) (n : Nat) : Own (w.drewN n) bl D := h
theorem owns_drewN {w : World} {P : Program} {k : TypeId} {R : Value → Option (DataW Unit × List MemPlace)} {b n : Nat} {D : DataW Unit} (h : w.ownsMap P k R b n D) (m : Nat) : (w.drewN m).ownsMap P k R b n D := h

/-- The look-up with 'ok', as an equation. -/
theorem own_look {w : World} {bl : Nat} {D : DataW Unit} (h : Own w bl D) {n hh : Int} (hn : (Lit.int .u32 n).wf = true) (hw : (Lit.int .u8 hh).wf = true) :
    (Instr.lookup 56 (.map (some bl)) (.agg #[.int .u32 n, .int .u8 hh]) true).run Trym.prog w = .ok (.tuple #[.int .u32 (numAt D (sk n hh)), .bool (Maps.has D (sk n hh))]) w := by
  obtain ⟨v, ps, hr, hv⟩ := World.ownsMap.look_ok h law58 Trym.underlying56 (zero26 _) (plainElem_int Trym.underlying26 (by decide)) (sk_key hn hw)
  obtain ⟨c, rfl, hc, _⟩ := plainElem_int_inv Trym.underlying26 hv
  rw [hr, numAt_of (congrArg Prod.fst hc)]
theorem own_alloc {w : World} {bl : Nat} {D : DataW Unit} (h : Own w bl D) (o : Obj) : Own (w.alloc o) bl D := World.ownsMap.alloc h o
/-- The store, as an equation. -/
theorem own_store {w : World} {bl : Nat} {D : DataW Unit} (h : Own w bl D) (hs : Maps.size D < 4294967296) {n hh sq : Int} (hn : (Lit.int .u32 n).wf = true) (hw : (Lit.int .u8 hh).wf = true) (hq : (Lit.int .u32 sq).wf = true) :
    ∃ w1, (Instr.mapUpdate 56 (.map (some bl)) (.agg #[.int .u32 n, .int .u8 hh]) (.int .u32 sq)).run Trym.prog w = .ok () w1 ∧ Own w1 bl (D.put (sk n hh) (.lit (.int .u32 sq))) ∧ Kp w w1 (fun i => i = bl) := by
  obtain ⟨w1, hrun, hown1, hturn⟩ := World.ownsMap.store h law58 Trym.underlying56 (by unfold maxLen; omega) (sk_key hn hw) (plainElem_int Trym.underlying26 hq)
  exact ⟨w1, hrun, owns_tight hown1, (Kp.refl w _).grown hturn.grown (fun k hk _ => by cases hk; rfl)⟩

set_option maxHeartbeats 400000 in
set_option maxRecDepth 100000 in
theorem remember_has (b bl : Nat) (D : DataW Unit) (n h sq : Int) (w : World) (c7 : w.cell? ⟨b, 7, none⟩ = some (.map (some bl))) (hown : Own w bl D)
    (hs : 65536 ≤ Maps.size D) (hs1 : Maps.size D < 4294967296) (hhas : Maps.has D (sk n h) = true) (hb : b < w.heap.size)
    (hn : (Lit.int .u32 n).wf = true) (hh : (Lit.int .u8 h).wf = true) (hq : (Lit.int .u32 sq).wf = true) :
    Calls Trym.prog 29 #[.pointer (some ⟨b, 0, none⟩), .agg #[.int .u32 n, .int .u8 h], .int .u32 sq] w fun e w' => e = .returned (.tuple #[]) ∧
      Own w' bl (D.put (sk n h) (.lit (.int .u32 sq))) ∧ Kp w w' (fun i => i = bl) := by
  have hkey := sk_key hn hh
  have hnil := fun W : World => run_eql_map_nil (P := Trym.prog) W 56 58 26 (some bl) Trym.underlying56
  obtain ⟨c, hlook⟩ : ∃ c, ∀ nq, (Instr.lookup 56 (.map (some bl)) (.agg #[.int .u32 n, .int .u8 h]) true).run Trym.prog ((w.alloc (.cells #[.int .u32 n, .int .u8 h] 58)).drewN nq) = .ok (.tuple #[.int .u32 c, .bool true]) ((w.alloc (.cells #[.int .u32 n, .int .u8 h] 58)).drewN nq) :=
    ⟨numAt D (sk n h), fun nq => by have := own_look (own_drewN (own_alloc hown (.cells #[.int .u32 n, .int .u8 h] 58)) nq) hn hh; rw [hhas] at this; exact this⟩
  have hlen := fun ty => (hown.alloc (.cells #[.int .u32 n, .int .u8 h] 58)).len Trym.underlying56 ty
  have hs' : 65536 ≤ ((Maps.size D : Nat) : Int) := by omega
  generalize ((Maps.size D : Nat) : Int) = sz at hlen hs'
  have ST : Hid (∀ nq, ∃ w1, (Instr.mapUpdate 56 (.map (some bl)) (.agg #[.int .u32 n, .int .u8 h]) (.int .u32 sq)).run Trym.prog ((w.alloc (.cells #[.int .u32 n, .int .u8 h] 58)).drewN nq) = .ok () w1 ∧ Own w1 bl (D.put (sk n h) (.lit (.int .u32 sq))) ∧ Kp w w1 (fun i => i = bl)) := by
    intro nq
    obtain ⟨w1, hrun, hown1, hk⟩ := own_store (own_drewN (own_alloc hown (.cells #[.int .u32 n, .int .u8 h] 58)) nq) hs1 hn hh hq
    exact ⟨w1, hrun, hown1, (((Kp.refl w _).alloc _).drewN nq).trans hk⟩
  clear hkey hown hs hs1 hhas
  go_enter Trym.func29, Trym.ntmps29
  go_wp2
  go_quiet (fail)
  obtain ⟨w1, hrun, R1⟩ := ST.out (nq + 1)
  have HR : Hid _ := R1
  clear R1 ST
  go_wp2
  go_region
  go_wp2
  go_end0
  exact ⟨rfl, HR.out⟩

end Go.Proofs.Qxb6605559aMods
