import Derived.Test.Qxb6605559aModsF
namespace Go.Proofs.Qxb6605559aMods
open Go.RowKit Go.Maps
set_option linter.unusedVariables false

theorem eql58 (n h nd hw : Int) (W : World) : (binOp .eql 58 (.agg #[.int .u32 n, .int .u8 h]) (.agg #[.int .u32 nd, .int .u8 hw])).run Trym.prog W = .ok (.bool (n == nd && h == hw)) W := by
  have h1 : Trym.prog.underlying 58 = some (.struct (Trym.prog.fieldsOf 58)) := by rw [Program.fieldsOf, Trym.underlying58]
  rw [run_eql_struct, run_equalIn_agg _ _ _ _ _ h1 (by kernel_rfl)]
  rw [Program.fieldsOf, Trym.underlying58]
  simp only [Op.eqFields]
  rw [if_pos (by decide), if_pos (by decide)]
  have p1 : ∀ (x y : Int) (w : World), (part 26 #[.int .u32 x, .int .u8 y] 0).run Trym.prog w = .ok (.int .u32 x) w := fun _ _ _ => by kernel_rfl
  have p2 : ∀ (x y : Int) (w : World), (part 5 #[.int .u32 x, .int .u8 y] 1).run Trym.prog w = .ok (.int .u8 y) w := fun _ _ _ => by kernel_rfl
  have q1 : ∀ w : World, (Op.equalIn 9999 26 (.int .u32 n) (.int .u32 nd)).run Trym.prog w = .ok (n == nd) w := fun w => run_equalIn_int w 9998 26 .u32 .u32 n nd Trym.underlying26
  have q2 : ∀ w : World, (Op.equalIn 9999 5 (.int .u8 h) (.int .u8 hw)).run Trym.prog w = .ok (h == hw) w := fun w => run_equalIn_int w 9998 5 .u8 .u8 h hw Trym.underlying5
  simp only [Sem.run_bind, p1, p2, q1, q2, Result.andThen_ok, Sem.run_ite, Sem.run_pure]
  cases h1 : (n == nd) <;> cases h2 : (h == hw) <;> rfl

theorem own_setCell {w : World} {bl : Nat} {D : DataW Unit} (h : Own w bl D) {a : Addr} (hne : bl ≠ a.block) (u : Value) : Own (w.setCell a u) bl D := World.ownsMap.setCell h hne u

theorem u32_bd {c : Int} (h : (Lit.int .u32 c).wf = true) : 0 ≤ c ∧ c ≤ 4294967295 := by
  simp [Lit.wf, IntKind.min, IntKind.max, IntKind.signed, IntKind.bits] at h; omega
theorem u8_bd {c : Int} (h : (Lit.int .u8 c).wf = true) : 0 ≤ c ∧ c ≤ 255 := by
  simp [Lit.wf, IntKind.min, IntKind.max, IntKind.signed, IntKind.bits] at h; omega
theorem own_num {w : World} {bl : Nat} {D : DataW Unit} (h : Own w bl D) {n hh : Int} (hn : (Lit.int .u32 n).wf = true) (hw : (Lit.int .u8 hh).wf = true) : 0 ≤ numAt D (sk n hh) ∧ numAt D (sk n hh) ≤ 4294967295 := by
  obtain ⟨v, ps, hr, hv⟩ := World.ownsMap.look_ok h law58 Trym.underlying56 (zero26 _) (plainElem_int Trym.underlying26 (by decide)) (sk_key hn hw)
  obtain ⟨c, rfl, hc, hwc⟩ := plainElem_int_inv Trym.underlying26 hv
  rw [numAt_of (congrArg Prod.fst hc)]
  exact u32_bd hwc
theorem lst_num {w : World} {mv : Value} {D : DataW Unit} (h : Lst w mv D) {n hh : Int} (hn : (Lit.int .u32 n).wf = true) (hw : (Lit.int .u8 hh).wf = true) : 0 ≤ numAt D (sk n hh) ∧ numAt D (sk n hh) ≤ 4294967295 := by
  rcases h with ⟨rfl, rfl⟩ | ⟨bl, rfl, ho⟩
  · rw [numAt_empty]; decide
  · exact own_num ho hn hw

theorem own_drew {w : World} {bl : Nat} {D : DataW Unit} (h : Own w bl D) : Own w.drew bl D := h

theorem Lst.lt {w : World} {mv : Value} {D : DataW Unit} (h : Lst w mv D) {i : Nat} (e : mv = .map (some i)) : i < w.heap.size := by
  rcases h with ⟨rfl, _⟩ | ⟨bl, rfl, ho⟩
  · cases e
  · cases e; exact ho.lt

set_option maxHeartbeats 1000000 in
set_option maxRecDepth 100000 in
theorem seq_other (b : Nat) (r t m u p l e : Int) (mv : Value) (nd hw q : Int) (D : DataW Unit) (v h s n : Int) (w : World) (hctr : Ctr w b r t m u p l e mv nd hw q true) (hl : Lst w mv D)
    (hs1 : Maps.size D < 4294967296) (hne : (n == nd && h == hw) = false)
    (hn : (Lit.int .u32 n).wf = true) (hh : (Lit.int .u8 h).wf = true) (hnd : (Lit.int .u32 nd).wf = true) (hhw : (Lit.int .u8 hw).wf = true) (hq : (Lit.int .u32 q).wf = true) (s0 : 0 ≤ s) (s1 : s ≤ 4294967295) :
    Calls Trym.prog 28 #[.pointer (some ⟨b, 0, none⟩), .agg #[.int .u8 v, .int .u8 h, .int .u32 s, .int .u32 n]] w fun er w' => er = .returned (.tuple #[]) ∧
      ∃ bl D', Remembered D nd hw q D' ∧ Ctr w' b r t m u p (if Maps.has D' (sk n h) = true then (l + lostF (numAt D' (sk n h)) s) % 18446744073709551616 else l) e (.map (some bl)) n h s true ∧ Own w' bl D' ∧ (mv = .map (some bl) ∨ w.heap.size ≤ bl) ∧ Kp w w' (fun i => i = b ∨ mv = .map (some i)) := by
  have c5 := hctr.lost
  have c7 := hctr.last
  have c8 := hctr.node
  have c9 := hctr.hwid
  have c10 := hctr.seq
  have c11 := hctr.has
  have fz := hctr.frozen
  have hb := hctr.lt
  have HC : Hid (Ctr w b r t m u p l e mv nd hw q true) := hctr
  have HL : Hid (Lst w mv D) := hl
  have heql := eql58 n h nd hw
  rw [hne] at heql
  clear hctr hl
  go_enter Trym.func28, Trym.ntmps28
  go_wp2
  go_quiet (fail)
  go_wp2
  go_region_with (go_at_call 29; refine (remember_any b r t m u p l e mv nd hw q true D nd hw q _ (((HC.out.alloc _).alloc _).drewN _) (((HL.out.alloc _).alloc _).drewN _) hs1 hnd hhw hq).mono ?_; rintro er w' ⟨rfl, bl, D', hrem, hctr1, ho1, hcase, hk1⟩)
  all_goals
    have hx1 : ¬ (w.heap.size = b ∨ mv = .map (some w.heap.size)) := by
      rintro (e | e)
      · omega
      · have := HL.out.lt e; omega
    have hx2 : ¬ (w.heap.size + 1 = b ∨ mv = .map (some (w.heap.size + 1))) := by
      rintro (e | e)
      · omega
      · have := HL.out.lt e; omega
    have g2 : w'.cell? ⟨w.heap.size, 2, none⟩ = some (.int .u32 s) := hk1.cell (by simp) hx1
    have v0 : w'.cell? ⟨w.heap.size + 1, 0, none⟩ = some (.int .u32 n) := hk1.cell (by simp) hx2
    have v1 : w'.cell? ⟨w.heap.size + 1, 1, none⟩ = some (.int .u8 h) := hk1.cell (by simp) hx2
    have d5 := hctr1.lost
    have d7 := hctr1.last
    have d8 := hctr1.node
    have d9 := hctr1.hwid
    have d10 := hctr1.seq
    have d11 := hctr1.has
    have gz := hctr1.frozen
    have gb := hctr1.lt
    have hlook := fun k => own_look (own_drewN ho1 k) hn hh
    have FI : Hid (Remembered D nd hw q D' ∧ Ctr w' b r t m u p l e (.map (some bl)) nd hw q true ∧ Own w' bl D' ∧ (mv = .map (some bl) ∨ w.heap.size ≤ bl) ∧ Kp w w' (fun i => i = b ∨ mv = .map (some i))) :=
      ⟨hrem, hctr1, ho1, (by rcases hcase with h | h; exact Or.inl h; exact Or.inr (by simp at h; omega)), ((((Kp.refl w _).alloc _).alloc _).drewN _).trans hk1⟩
    clear hx1 hx2 hrem hctr1 ho1 hcase hk1 c5 c7 c8 c9 c10 c11 fz heql
    cases hhas : Maps.has D' (sk n h)
    · rw [hhas] at hlook
      have HH : Hid (Maps.has D' (sk n h) = false) := hhas
      clear hhas
      go_wp2
      go_quiet (fail)
      go_wp2
      go_region
      go_wp2
      go_end0
      obtain ⟨r1, r2, r3, r4, r5⟩ := FI.out
      have r6 := ctr_ne_own r2 r3
      refine ⟨rfl, bl, D', r1, ?_, own_setCell (own_setCell (own_setCell (own_setCell (own_drewN r3 _) (Ne.symm r6) _) (Ne.symm r6) _) (Ne.symm r6) _) (Ne.symm r6) _, r4, ((((r5.drewN _).setCell (fun _ => Or.inl rfl) _).setCell (fun _ => Or.inl rfl) _).setCell (fun _ => Or.inl rfl) _).setCell (fun _ => Or.inl rfl) _⟩
      rw [if_neg (by rw [HH.out]; decide)]
      exact ((((r2.drewN _).setNode _).setHw _).setSeq _).setHas _
    · rw [hhas] at hlook
      obtain ⟨x0, x1⟩ := own_num FI.out.2.2.1 hn hh
      obtain ⟨x, hx⟩ : ∃ x, x = numAt D' (sk n h) := ⟨_, rfl⟩
      rw [← hx] at hlook x0 x1
      have HH : Hid (Maps.has D' (sk n h) = true ∧ x = numAt D' (sk n h)) := ⟨hhas, hx⟩
      clear hhas hx
      go_wp2
      go_quiet (fail)
      go_wp2
      go_region_with (go_at_call 30; refine (lost_any x s _ x0 x1 s0 s1).mono ?_; rintro e w' ⟨rfl, rfl⟩)
      all_goals
        go_wp2
        go_region
        go_wp2
        go_end0
        obtain ⟨r1, r2, r3, r4, r5⟩ := FI.out
        have r6 := ctr_ne_own r2 r3
        refine ⟨rfl, bl, D', r1, ?_, ?_, r4, ?_⟩
        · rw [if_pos HH.out.1, ← HH.out.2, ← wrapAdd]
          exact ((((((r2.drewN _).setLost _).setNode _).setHw _).setSeq _).setHas _).drew
        · exact own_drew (own_setCell (own_setCell (own_setCell (own_setCell (own_setCell (own_drewN r3 _) (Ne.symm r6) _) (Ne.symm r6) _) (Ne.symm r6) _) (Ne.symm r6) _) (Ne.symm r6) _)
        · exact (((((((r5.drewN _).setCell (fun _ => Or.inl rfl) _).setCell (fun _ => Or.inl rfl) _).setCell (fun _ => Or.inl rfl) _).setCell (fun _ => Or.inl rfl) _).setCell (fun _ => Or.inl rfl) _)).drew

end Go.Proofs.Qxb6605559aMods
