import Derived.Test.Qxb6605559aModsE
namespace Go.Proofs.Qxb6605559aMods
open Go.RowKit Go.Maps
set_option linter.unusedVariables false

theorem Lst.look {w : World} {mv : Value} {D : DataW Unit} (h : Lst w mv D) {n hh : Int} (hn : (Lit.int .u32 n).wf = true) (hw : (Lit.int .u8 hh).wf = true) :
    (Instr.lookup 56 mv (.agg #[.int .u32 n, .int .u8 hh]) true).run Trym.prog w = .ok (.tuple #[.int .u32 (numAt D (sk n hh)), .bool (Maps.has D (sk n hh))]) w := by
  rcases h with ⟨rfl, rfl⟩ | ⟨bl, rfl, ho⟩
  · exact look_nil (w := w) true law58 Trym.underlying56 (zero26 _) (sk_key hn hw)
  · exact own_look ho hn hw
theorem Lst.alloc {w : World} {mv : Value} {D : DataW Unit} (h : Lst w mv D) (o : Obj) : Lst (w.alloc o) mv D := by
  rcases h with h | ⟨bl, rfl, ho⟩
  · exact Or.inl h
  · exact Or.inr ⟨bl, rfl, own_alloc ho o⟩
theorem Lst.drewN {w : World} {mv : Value} {D : DataW Unit} (h : Lst w mv D) (n : Nat) : Lst (w.drewN n) mv D := h

set_option maxHeartbeats 1000000 in
set_option maxRecDepth 100000 in
theorem seq_first_no (b : Nat) (r t m u p l e : Int) (mv : Value) (nd hw q : Int) (D : DataW Unit) (v h s n : Int) (w : World) (hctr : Ctr w b r t m u p l e mv nd hw q false) (hl : Lst w mv D)
    (hhas : Maps.has D (sk n h) = false)
    (hn : (Lit.int .u32 n).wf = true) (hh : (Lit.int .u8 h).wf = true) (s0 : 0 ≤ s) (s1 : s ≤ 4294967295) :
    Calls Trym.prog 28 #[.pointer (some ⟨b, 0, none⟩), .agg #[.int .u8 v, .int .u8 h, .int .u32 s, .int .u32 n]] w fun er w' => er = .returned (.tuple #[]) ∧
      Ctr w' b r t m u p l e mv n h s true ∧ Kp w w' (fun i => i = b) := by
  have c5 := hctr.lost
  have c7 := hctr.last
  have c8 := hctr.node
  have c9 := hctr.hwid
  have c10 := hctr.seq
  have c11 := hctr.has
  have fz := hctr.frozen
  have hb := hctr.lt
  have HC : Hid (Ctr w b r t m u p l e mv nd hw q false) := hctr
  have hlook := fun k => ((((hl.alloc (.cells #[.int .u8 v, .int .u8 h, .int .u32 s, .int .u32 n] 40)).alloc (.cells #[.int .u32 n, .int .u8 h] 58)).drewN k).look hn hh)
  rw [hhas] at hlook
  clear hctr hl hhas
  go_enter Trym.func28, Trym.ntmps28
  go_wp2
  go_quiet (fail)
  go_wp2
  go_quiet (fail)
  go_wp2
  go_region
  go_wp2
  go_end0
  exact ⟨rfl, (((((((HC.out.alloc _).alloc _).drewN _).setNode _).setHw _).setSeq _).setHas _), (((((((Kp.refl w (fun i => i = b)).alloc _).alloc _).drewN _).setCell (fun _ => rfl) _).setCell (fun _ => rfl) _).setCell (fun _ => rfl) _).setCell (fun _ => rfl) _⟩

set_option maxHeartbeats 1000000 in
set_option maxRecDepth 100000 in
theorem seq_first_yes (b : Nat) (r t m u p l e : Int) (mv : Value) (nd hw q : Int) (D : DataW Unit) (v h s n : Int) (w : World) (hctr : Ctr w b r t m u p l e mv nd hw q false) (hl : Lst w mv D)
    (hhas : Maps.has D (sk n h) = true) (d0 : 0 ≤ numAt D (sk n h)) (d1 : numAt D (sk n h) ≤ 4294967295)
    (hn : (Lit.int .u32 n).wf = true) (hh : (Lit.int .u8 h).wf = true) (s0 : 0 ≤ s) (s1 : s ≤ 4294967295) :
    Calls Trym.prog 28 #[.pointer (some ⟨b, 0, none⟩), .agg #[.int .u8 v, .int .u8 h, .int .u32 s, .int .u32 n]] w fun er w' => er = .returned (.tuple #[]) ∧
      Ctr w' b r t m u p ((l + lostF (numAt D (sk n h)) s) % 18446744073709551616) e mv n h s true ∧ Kp w w' (fun i => i = b) := by
  have c5 := hctr.lost
  have c7 := hctr.last
  have c8 := hctr.node
  have c9 := hctr.hwid
  have c10 := hctr.seq
  have c11 := hctr.has
  have fz := hctr.frozen
  have hb := hctr.lt
  have HC : Hid (Ctr w b r t m u p l e mv nd hw q false) := hctr
  have hlook := fun k => ((((hl.alloc (.cells #[.int .u8 v, .int .u8 h, .int .u32 s, .int .u32 n] 40)).alloc (.cells #[.int .u32 n, .int .u8 h] 58)).drewN k).look hn hh)
  rw [hhas] at hlook
  generalize numAt D (sk n h) = x at *
  clear hctr hl hhas
  go_enter Trym.func28, Trym.ntmps28
  go_wp2
  go_quiet (fail)
  go_wp2
  go_quiet (fail)
  go_wp2
  go_region_with (go_at_call 30; refine (lost_any x s _ d0 d1 s0 s1).mono ?_; rintro e w' ⟨rfl, rfl⟩)
  all_goals
    go_wp2
    go_region
    go_wp2
    go_end0
    refine ⟨rfl, ?_, ?_⟩
    · rw [← wrapAdd]
      exact (((((((((HC.out.alloc _).alloc _).drewN _).setLost _).setNode _).setHw _).setSeq _).setHas _)).drew
    · exact (((((((((Kp.refl w (fun i => i = b)).alloc _).alloc _).drewN _).setCell (fun _ => rfl) _).setCell (fun _ => rfl) _).setCell (fun _ => rfl) _).setCell (fun _ => rfl) _).setCell (fun _ => rfl) _).drew

end Go.Proofs.Qxb6605559aMods
