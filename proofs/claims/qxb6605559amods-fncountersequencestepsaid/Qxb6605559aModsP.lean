import Derived.Test.Qxb6605559aModsO
namespace Go.Proofs.Qxb6605559aMods
open Go.RowKit Go.Maps
set_option linter.unusedVariables false

/-- 'build' on its way: behind k entries. -/
def BuiltAt (w : World) (a : Option Addr) (len cap : Nat) (en eh : Nat → Int) (r t m u p l e cn ch cs : Int) (hc : Bool) (bc bl bo k : Nat) (wr : World) : Prop :=
  ∃ D DM, Ctr wr bc r t m u p l e (.map (some bl)) cn ch cs hc ∧ Own wr bl D ∧ OwnM wr bo DM ∧ EntInv en eh k D DM ∧ wr.cell? ⟨w.heap.size, 0, none⟩ = some (.slice a len cap) ∧ Below w.heap.size w wr

set_option maxHeartbeats 2000000 in
set_option maxRecDepth 20000 in
theorem build_some (B len cap : Nat) (en eh eq : Nat → Int) (r t m u p l e cn ch cs : Int) (hc : Bool) (w : World) (hlen : len ≤ 65536) (hrow : w.rowIs B 65 (len * 3) (cellE en eh eq))
    (hwf : ∀ i, i < len → (Lit.int .u32 (en i)).wf = true ∧ (Lit.int .u8 (eh i)).wf = true ∧ (Lit.int .u32 (eq i)).wf = true) :
    Calls Trym.prog 8 #[stV (some ⟨B, 0, none⟩) len cap false r t m u p l e cn ch cs hc] w fun er w' => ∃ bc bo, er = .returned (.tuple #[.pointer (some ⟨bc, 0, none⟩), .map (some bo), .slice (some ⟨B, 0, none⟩) len cap]) ∧ Built w en eh len r t m u p l e cn ch cs hc bc bo w' := by
  have hmm := @run_makeMap Trym.prog
  have HR := hide hrow
  have HW := hide hwf
  have hBw := hrow.lt
  clear hrow hwf
  go_enter Trym.func8, Trym.ntmps8
  go_wp2
  go_region_held3 (fun w' => w'.cell? ⟨w.heap.size, 2, none⟩ = some (.int .u64 r) ∧ w'.cell? ⟨w.heap.size, 3, none⟩ = some (.int .u64 t) ∧ w'.cell? ⟨w.heap.size, 4, none⟩ = some (.int .u64 m) ∧ w'.cell? ⟨w.heap.size, 5, none⟩ = some (.int .u64 u) ∧ w'.cell? ⟨w.heap.size, 6, none⟩ = some (.int .u64 p) ∧ w'.cell? ⟨w.heap.size, 7, none⟩ = some (.int .u64 l) ∧ w'.cell? ⟨w.heap.size, 8, none⟩ = some (.int .u64 e) ∧
      w'.cell? ⟨w.heap.size, 9, none⟩ = some (.int .u32 cn) ∧ w'.cell? ⟨w.heap.size, 10, none⟩ = some (.int .u8 ch) ∧ w'.cell? ⟨w.heap.size, 11, none⟩ = some (.int .u32 cs) ∧ w'.cell? ⟨w.heap.size, 12, none⟩ = some (.bool hc))
    (first | (simp [go_sem, World.cell?_alloc_past]; done) | (simp [go_sem, World.cell?_alloc_past, hcc]; done))
    (first
      | (go_at_call 25; refine (toStats_any r t m u p l e _).mono ?_; rintro er w' ⟨rfl, rfl⟩)
      | (go_at_call 24; refine (newCounter_abs r t m u p l e cn ch cs hc _).mono ?_; rintro er w1 ⟨rfl, hctr, ho, hb⟩; have hcc := (bcell hb).1))
  obtain ⟨bc, bl, hbc, F⟩ : ∃ bc bl, bc = w.heap.size + 1 + 1 + 1 + 2 ∧ Hid (Ctr w1 bc r t m u p l e (.map (some bl)) cn ch cs hc ∧ Own w1 bl (.map []) ∧ Below w.heap.size w w1 ∧ w.heap.size < bl ∧ bl < bc) := by
    refine ⟨_, w.heap.size + 1 + 1 + 1 + 1, rfl, ?_, ?_, ?_, by omega, by omega⟩
    · simpa using hctr
    · simpa using ho
    · have hb' := hb.mono (B' := w.heap.size) (by simp; omega)
      refine Below.trans ?_ hb'
      exact ((((Below.refl _ _).alloc (Nat.le_refl _) _).alloc (by simp) _).alloc (by simp; omega) _).drew
  rw [← hbc]
  have c0 : w1.cell? ⟨w.heap.size, 0, none⟩ = some (.slice (some ⟨B, 0, none⟩) len cap) := by rw [hcc _ _ (by simp; omega)]; simp [go_sem, World.cell?_alloc_past]
  have c1 : w1.cell? ⟨w.heap.size, 1, none⟩ = some (.bool false) := by rw [hcc _ _ (by simp; omega)]; simp [go_sem, World.cell?_alloc_past]
  have hz : bc < w1.heap.size := F.out.1.lt
  obtain ⟨hl1, hl2⟩ := F.out.2.2.2
  have R0 : Hid (BuiltAt w (some ⟨B, 0, none⟩) len cap en eh r t m u p l e cn ch cs hc bc bl w1.heap.size 0 (w1.alloc (.map #[] 0))) := by
    have k : Kp w1 (w1.alloc (.map #[] 0)) (fun _ => False) := (Kp.refl w1 _).alloc _
    exact ⟨.map [], .map [], F.out.1.alloc _, own_alloc F.out.2.1 _, ownM_made w1, entInv_start en eh, k.cell c0 (by simp), F.out.2.2.1.alloc F.out.2.2.1.size _⟩
  have hz0 : w.heap.size < w1.heap.size := by omega
  clear hctr ho hb hcc hbc F
  go_wp2_with fail
  clear c0 c1
  go_loopw [7] (fun i wr => ∃ k : Nat, k ≤ len ∧ i = .int .i64 k ∧ BuiltAt w (some ⟨B, 0, none⟩) len cap en eh r t m u p l e cn ch cs hc bc bl w1.heap.size k wr) (fun i _ => len - (intOf i).toNat)
  case atStart => exact ⟨0, Nat.zero_le _, rfl, R0.out⟩
  case round =>
    clear R0
    obtain ⟨k, hk, rfl, D, DM, hctr, ho, hM, I, cS, hbel⟩ := hrel
    by_cases hlt : k < len
    · obtain ⟨wn, wh, wq⟩ := HW.out k hlt
      obtain ⟨n0, n1⟩ := u32_bd wn
      obtain ⟨h0, h1⟩ := u8_bd wh
      have Rr := HR.out.of_block (hbel.block B hBw)
      have d0 : wr.cell? ⟨B, k * 3, none⟩ = some (.int .u32 (en k)) := by rw [Rr.cell (i := k * 3) (by omega), cellE0]
      have d1 : wr.cell? ⟨B, k * 3 + 1, none⟩ = some (.int .u8 (eh k)) := by rw [Rr.cell (i := k * 3 + 1) (by omega), cellE1]
      have d2 : wr.cell? ⟨B, k * 3 + 2, none⟩ = some (.int .u32 (eq k)) := by rw [Rr.cell (i := k * 3 + 2) (by omega), cellE2]
      have zw := hbel.size
      have zc := hctr.lt
      have zm := hM.lt
      have hsD : Maps.size D < 4294967296 := by have := I.le; omega
      have hsM : Maps.size DM < 4294967296 := by have := I.le; have := I.sz; omega
      have HF := hide (And.intro hctr (And.intro ho (And.intro hM (And.intro I (And.intro cS hbel)))))
      clear Rr hctr ho hM I hbel
      go_wp2_with fail
      obtain ⟨hctr, ho, hM, I, _, hbel⟩ := HF.out
      refine (put_any bc bl r t m u p l e cn ch cs hc D (en k) (eh k) (eq k) _ (hctr.alloc _) (own_alloc ho _) hsD wn wh wq).mono ?_
      rintro er w2 ⟨rfl, ho2, k2⟩
      have hne : bc ≠ bl := by omega
      have kk : Kp wr w2 (fun i => i = bl) := ((Kp.refl wr _).alloc _).trans k2
      have g0 : w2.cell? ⟨wr.heap.size, 0, none⟩ = some (.int .u32 (en k)) := k2.cell (by simp) (by simp; omega)
      have g1 : w2.cell? ⟨wr.heap.size, 1, none⟩ = some (.int .u8 (eh k)) := k2.cell (by simp) (by simp; omega)
      have g2 : w2.cell? ⟨wr.heap.size, 2, none⟩ = some (.int .u32 (eq k)) := k2.cell (by simp) (by simp; omega)
      have hM2 : OwnM w2.drew w1.heap.size DM := kk.ownM hM (by omega)
      obtain ⟨w3, hst, hM3, k3⟩ := ownM_store hM2 hsM wn wh wq
      have k23 : Kp w2 w3 (fun i => i = w1.heap.size) := (Kp.refl w2 _).drew.trans k3
      have NX : Hid (BuiltAt w (some ⟨B, 0, none⟩) len cap en eh r t m u p l e cn ch cs hc bc bl w1.heap.size (k + 1) w3) := by
        refine ⟨_, _, k23.ctr (kk.ctr hctr hne) (by omega), k23.owns ho2 (by omega), hM3, entInv_step I wn wh (eq k), k23.cell (kk.cell cS (by simp; omega)) (by simp; omega), ?_⟩
        exact Kp.toBelow (Kp.toBelow hbel kk zw (fun i hi => by omega)) k23 (by have := kk.size; omega) (fun i hi => by omega)
      clear hctr ho hM I hbel HF ho2 k2 kk hM2 hM3 k3 k23
      go_wp2_with fail
      go_region_with (go_at_call 9; refine (key_any (en k) (eh k) _ n0 n1 h0 h1).mono ?_; rintro er w4 ⟨rfl, rfl⟩)
      all_goals
        go_wp2
        go_roundw
        case rel => exact ⟨k + 1, by omega, by go_num, NX.out⟩
        case measure => simp [intOf]; omega
    · have hkl : k = len := by omega
      subst hkl
      have HF := hide (And.intro hctr (And.intro ho (And.intro hM (And.intro I (And.intro cS hbel)))))
      clear hctr ho hM I hbel
      go_wp2
      go_quiet (fail)
      go_wp2
      go_ret3
      obtain ⟨hctr, ho, hM, I, _, hbel⟩ := HF.out
      exact ⟨bc, w1.heap.size, rfl, .map (some bl), D, DM, hctr.drewN _, Or.inr ⟨bl, rfl, own_drewN ho _⟩, hM, I, by omega, by omega, (fun i e => by cases e; omega), below_drewN hbel _⟩

end Go.Proofs.Qxb6605559aMods
