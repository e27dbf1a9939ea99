import Derived.Test.Qxb6605559aModsD
import Derived.Deep.RegionWith
namespace Go.Proofs.Qxb6605559aMods
open Go.RowKit Go.Maps
set_option linter.unusedVariables false

section
variable {w : World} {b : Nat} {r t m u p l e : Int} {mv : Value} {nd hw sq : Int} {hc : Bool}
theorem Ctr.alloc (h : Ctr w b r t m u p l e mv nd hw sq hc) (o : Obj) : Ctr (w.alloc o) b r t m u p l e mv nd hw sq hc := h.same (Below.heap_alloc _ _ _ h.lt)
theorem Ctr.drewN (h : Ctr w b r t m u p l e mv nd hw sq hc) (n : Nat) : Ctr (w.drewN n) b r t m u p l e mv nd hw sq hc := h
theorem Ctr.drew (h : Ctr w b r t m u p l e mv nd hw sq hc) : Ctr w.drew b r t m u p l e mv nd hw sq hc := h
theorem Ctr.setLost (h : Ctr w b r t m u p l e mv nd hw sq hc) (x : Int) : Ctr (w.setCell ⟨b, 5, none⟩ (.int .u64 x)) b r t m u p x e mv nd hw sq hc := by
  unfold Ctr at h ⊢; simp [World.setCell, Array.getElem?_modify, h]
theorem Ctr.setSeq (h : Ctr w b r t m u p l e mv nd hw sq hc) (x : Int) : Ctr (w.setCell ⟨b, 10, none⟩ (.int .u32 x)) b r t m u p l e mv nd hw x hc := by
  unfold Ctr at h ⊢; simp [World.setCell, Array.getElem?_modify, h]
theorem Ctr.setNode (h : Ctr w b r t m u p l e mv nd hw sq hc) (x : Int) : Ctr (w.setCell ⟨b, 8, none⟩ (.int .u32 x)) b r t m u p l e mv x hw sq hc := by
  unfold Ctr at h ⊢; simp [World.setCell, Array.getElem?_modify, h]
theorem Ctr.setHw (h : Ctr w b r t m u p l e mv nd hw sq hc) (x : Int) : Ctr (w.setCell ⟨b, 9, none⟩ (.int .u8 x)) b r t m u p l e mv nd x sq hc := by
  unfold Ctr at h ⊢; simp [World.setCell, Array.getElem?_modify, h]
theorem Ctr.setHas (h : Ctr w b r t m u p l e mv nd hw sq hc) (x : Bool) : Ctr (w.setCell ⟨b, 11, none⟩ (.bool x)) b r t m u p l e mv nd hw sq x := by
  unfold Ctr at h ⊢; simp [World.setCell, Array.getElem?_modify, h]
end

theorem lostF_bd (a b : Int) : 0 ≤ lostF a b ∧ lostF a b ≤ 2097151 := by unfold lostF; split <;> omega
theorem wrapAdd (l a b : Int) : IntKind.u64.wrap (l + IntKind.u64.wrap (lostF a b)) = (l + lostF a b) % 18446744073709551616 := by
  have := lostF_bd a b
  rw [IntKind.wrap_u64, IntKind.wrap_u64]; omega

set_option maxHeartbeats 1000000 in
set_option maxRecDepth 100000 in
theorem seq_same (b : Nat) (r t m u p l e : Int) (mv : Value) (nd hw q : Int) (v s : Int) (w : World) (hctr : Ctr w b r t m u p l e mv nd hw q true)
    (q0 : 0 ≤ q) (q1 : q ≤ 4294967295) (s0 : 0 ≤ s) (s1 : s ≤ 4294967295) :
    Calls Trym.prog 28 #[.pointer (some ⟨b, 0, none⟩), .agg #[.int .u8 v, .int .u8 hw, .int .u32 s, .int .u32 nd]] w fun er w' => er = .returned (.tuple #[]) ∧
      Ctr w' b r t m u p ((l + lostF q s) % 18446744073709551616) e mv nd hw s true ∧ Kp w w' (fun i => i = b) := by
  have c5 := hctr.lost
  have c8 := hctr.node
  have c9 := hctr.hwid
  have c10 := hctr.seq
  have c11 := hctr.has
  have fz := hctr.frozen
  have hb := hctr.lt
  have HC : Hid (Ctr w b r t m u p l e mv nd hw q true) := hctr
  clear hctr
  go_enter Trym.func28, Trym.ntmps28
  go_wp2
  go_quiet (fail)
  go_wp2
  go_region_with (go_at_call 30; refine (lost_any q s _ q0 q1 s0 s1).mono ?_; rintro e w' ⟨rfl, rfl⟩)
  all_goals
    go_wp2
    refine bodyPost_ret (v := .tuple #[]) (by simp [results, Trym.results28, go_sem]) rfl ⟨rfl, ?_, ?_⟩
    · rw [← wrapAdd]
      exact ((((HC.out.alloc _).alloc _).drewN _).setLost _).setSeq _
    · exact (((((Kp.refl w (fun i => i = b)).alloc _).alloc _).drewN _).setCell (fun _ => rfl) _).setCell (fun _ => rfl) _

end Go.Proofs.Qxb6605559aMods
