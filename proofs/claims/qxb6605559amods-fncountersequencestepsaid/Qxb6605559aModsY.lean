import Derived.Test.Qxb6605559aModsX
namespace Go.Proofs.Qxb6605559aMods
open Go.RowKit Go.Maps
set_option linter.unusedVariables false

set_option maxHeartbeats 16000000 in
set_option maxRecDepth 20000 in
theorem step_main (a : Option Addr) (len cap : Nat) (nm : Bool) (r t m u p l e cn ch cs : Int) (hc : Bool) (en eh eq : Nat → Int) (v h s n : Int) (w : World) (hlen : len ≤ 65536) (hsrc : SrcE w a len cap en eh eq)
    (hwf : ∀ i, i < len → (Lit.int .u32 (en i)).wf = true ∧ (Lit.int .u8 (eh i)).wf = true ∧ (Lit.int .u32 (eq i)).wf = true)
    (hn : (Lit.int .u32 n).wf = true) (hh : (Lit.int .u8 h).wf = true) (hs : (Lit.int .u32 s).wf = true) (hcn : (Lit.int .u32 cn).wf = true) (hch : (Lit.int .u8 ch).wf = true) (hcs : (Lit.int .u32 cs).wf = true) (l0 : 0 ≤ l) (l1 : l < 18446744073709551616) :
    Calls Trym.prog 3 #[stV a len cap nm r t m u p l e cn ch cs hc, .agg #[.int .u8 v, .int .u8 h, .int .u32 s, .int .u32 n]] w fun er w' => er = .returned (.bool true) ∧ Below w.heap.size w w' := by
  have hl1 : ¬ (65536 : Int) < len := by omega
  obtain ⟨n0, n1⟩ := u32_bd hn
  obtain ⟨h0, h1⟩ := u8_bd hh
  obtain ⟨s0, s1⟩ := u32_bd hs
  obtain ⟨cn0, cn1⟩ := u32_bd hcn
  obtain ⟨ch0, ch1⟩ := u8_bd hch
  obtain ⟨cs0, cs1⟩ := u32_bd hcs
  have S0 := hide ((stB_made w (.slice a len cap) nm r t m u p l e cn ch cs hc).alloc (.cells #[.int .u8 v, .int .u8 h, .int .u32 s, .int .u32 n] 30))
  have g00 := gB_made (w.alloc (.cells #[.slice a len cap, .bool nm, .int .u64 r, .int .u64 t, .int .u64 m, .int .u64 u, .int .u64 p, .int .u64 l, .int .u64 e, .int .u32 cn, .int .u8 ch, .int .u32 cs, .bool hc] 28)) v h s n
  rw [show ∀ o, (w.alloc o).heap.size = w.heap.size + 1 from fun o => by simp] at g00
  have G0 := hide g00
  have HS := hide hsrc
  have HW := hide hwf
  clear hsrc hwf g00
  go_enter Trym.func3, Trym.ntmps3
  go_wp2_with fail
  refine (bytesStep_yes a len cap nm r t m u p l e cn ch cs hc v h s n _ (by omega)).mono ?_
  rintro er w1 ⟨rfl, hb1⟩
  have S1 := hide (S0.out.below hb1 (by simp; omega))
  have G1 := hide (G0.out.below hb1 (by simp))
  have B1 := hide (step_open w _ _ hb1)
  have c0 := S1.out.cells.1
  have z1 := S1.out.lt
  have y1 := G1.out.lt
  clear hb1 S0 G0
  go_wp2_with fail
  refine (copyEntries_any a len cap en eh eq _ hlen (HS.out.below B1.out)).mono ?_
  rintro er w2 ⟨a', c', rfl, hrow, hb2⟩
  have S2 := hide (S1.out.below hb2 z1)
  have G2 := G1.out.below hb2 y1
  have B2 := hide (B1.out.trans (hb2.mono (by omega)))
  have k2 := S2.out.set0 (.slice a' len c')
  have kk : Kp w2 (w2.setCell ⟨w.heap.size, 0, none⟩ (.slice a' len c')) (fun i => i = w.heap.size) := (Kp.refl w2 (fun i => i = w.heap.size)).setCell (fun _ => rfl) _
  have G3 := hide (G2.kp kk (by omega))
  have RR := hide (kk.rowE hrow (by omega))
  have B3 := hide (B2.out.setCell (p := ⟨w.heap.size, 0, none⟩) (Nat.le_refl _) (.slice a' len c'))
  have e0 := S2.out.cells.1
  have fz := S2.out.frozen
  obtain ⟨_, d1, d2, d3, d4, d5, d6, d7, d8, d9, d10, d11, d12⟩ := k2.cells
  have S3 := hide k2
  have z2 := S2.out.lt
  have z2' := hb2.size
  clear hb2 hrow kk k2 c0 S1 S2 B1 B2 G1 G2
  go_wp2_with fail
  refine (build_any a' w1.heap.size len c' en eh eq nm r t m u p l e cn ch cs hc _ hlen RR.out HW.out).mono ?_
  rintro er w3 ⟨bc, bo, a2, k, c2, rfl, hk, hrow2, mv, D, DM, hctr, hl, hM, I, zb, zo, hmv, hbel⟩
  have zz : (w2.setCell ⟨w.heap.size, 0, none⟩ (.slice a' len c')).heap.size = w2.heap.size := by simp
  rw [zz] at zb hmv hbel
  have S4 := S3.out.below hbel z2
  have G4 := G3.out.below hbel (by omega)
  have R4 : RowE w3 a2 k en eh eq w1.heap.size := by
    rcases hrow2 with x | ⟨x, y⟩
    · exact Or.inl x
    · exact Or.inr ⟨x, (Kp.ofBelow hbel).row y (by have := y.lt; rw [zz] at this; omega)⟩
  have hRB : k = 0 ∨ w1.heap.size < w2.heap.size := by
    rcases hrow2 with x | ⟨x, y⟩
    · exact Or.inl x
    · exact Or.inr (by have := y.lt; rw [zz] at this; omega)
  have HRB := hide hRB
  clear hRB
  have B4 := B3.out.trans (hbel.mono (by omega))
  have hsD : Maps.size D < 4294967296 := by have := I.le; omega
  obtain ⟨z, hz⟩ : ∃ z : Int, z = Maps.size DM := ⟨_, rfl⟩
  have hzb : 0 ≤ z ∧ z ≤ 65536 := by have := I.le; have := I.sz; omega
  obtain ⟨hz0, hz1⟩ := hzb
  have hlookc := ownM_look hM hcn hch
  have hlooks := ownM_look hM hn hh
  have hlenM := fun ty => ownM_len hM ty
  obtain ⟨pq0, pq1⟩ := ownM_num hM hn hh
  rw [← hz] at hlenM
  obtain ⟨_, _, _, _, _, _, _, _, _, q9, q10, q11, q12⟩ := S4.cells
  obtain ⟨f0, f1, f2, f3⟩ := G4.cells
  have F := hide (And.intro S4 (And.intro G4 (And.intro R4 (And.intro B4 (And.intro hctr (And.intro hl (And.intro hM I)))))))
  have zmv := hide hmv
  have HZ := hide hz
  have zc := hctr.lt
  have zm := hM.lt
  have hk5 : k ≤ 65536 := by omega
  have HW2 := hide (fun i (hi : i < k) => And.intro (HW.out i (by omega)).1 (HW.out i (by omega)).2.1)
  generalize epq : numAt DM (k64 n h) = pq at hlooks pq0 pq1
  generalize ekn : Maps.has DM (k64 n h) = kn at hlooks
  have EPQ := hide epq
  have EKN := hide ekn
  clear epq ekn
  clear hrow2 hbel S4 R4 B4 hctr hl hM I hmv hz S3 G4 G3 RR B3 d1 d2 d3 d4 d5 d6 d7 d8 d9 d10 d11 d12 e0 fz zz hlen hk HS HW
  go_wp2_with fail
  refine (key_any n h _ n0 n1 h0 h1).mono ?_
  rintro er w4 ⟨rfl, hw4⟩
  have hw5 := hw4.symm
  clear hw4
  subst hw5
  go_wp2_with fail
  refine (key_any cn ch _ cn0 cn1 ch0 ch1).mono ?_
  rintro er w4 ⟨rfl, hw4⟩
  have hw5 := hw4.symm
  clear hw4
  subst hw5
  cases hc
  · -- none is current
    go_wp2_with fail
    refine (header_any v h s n _).mono ?_
    rintro er w4 ⟨rfl, hb4⟩
    have F4 := hide hb4
    clear hb4 hlookc hlooks hlenM q9 q10 q11 q12 f0 f1 f2 f3
    go_wp2_with fail
    obtain ⟨S4, G4, R4, B4, hctr, hl, hM, I⟩ := F.out
    have kb := Kp.ofBelow F4.out
    have hzs := F4.out.size
    refine (zzSequence_any bc r t m u p l e mv cn ch cs false D v h s n _ (hctr.below F4.out zc) (kb.lst hl (fun i hi => by have := zmv.out i hi; omega)) hsD hn hh hs hcn hch hcs).mono ?_
    rintro er w5 ⟨rfl, mv', D', l', hrel, hC5, hL5, _, hK5⟩
    have hM5 := hK5.ownM (kb.ownM hM (by omega)) (by rintro (x | x); omega; have := zmv.out _ x; omega)
    have S5 := (S4.below F4.out (by have := B4.size; have := S4.lt; omega)).kp hK5 (by rintro (x | x); omega; have := zmv.out _ x; omega)
    have G5 := (G4.below F4.out G4.lt).kp hK5 (by rintro (x | x); omega; have := zmv.out _ x; omega)
    have R5 : RowE w5 a2 k en eh eq w1.heap.size := by
      rcases HRB.out with hx | hx
      · exact Or.inl hx
      · exact hK5.rowE (kb.rowE R4 (by omega)) (by rintro (x | x); omega; have := zmv.out _ x; omega)
    have B5 := Kp.toBelow (B4.trans (F4.out.mono (by have := B4.size; omega))) hK5 (by have := B4.size; omega) (fun i hi => by rintro (x | x); omega; have := zmv.out _ x; omega)
    have HP := hide (And.intro hrel I)
    have F5 := hide (And.intro S5 (And.intro G5 (And.intro R5 (And.intro B5 (And.intro hC5 (And.intro hL5 hM5))))))
    clear S4 G4 R4 B4 hctr hl hM I F F4 kb hzs zc zm hrel hC5 hL5 hK5 hM5 S5 G5 R5 B5
    go_wp2_with fail
    refine (zzCurrent_any _ _ _ _ _ _ _ _ _ _ _ _ _ _ F5.out.2.2.2.2.1).mono ?_
    rintro er w6 ⟨rfl, hb6⟩
    obtain ⟨S5, G5, R5, B5, hC5, hL5, hM5⟩ := F5.out
    have kb := Kp.ofBelow hb6
    have C6 := hC5.below hb6 hC5.lt
    have L6 := kb.lst hL5 (fun i hi => by have := hL5.lt hi; omega)
    have M6 := kb.ownM hM5 (by have := hM5.lt; omega)
    have R6 : RowE w6 a2 k en eh eq w1.heap.size := by
      rcases R5 with hx | hx
      · exact Or.inl hx
      · exact kb.rowE (Or.inr hx) (by have := hx.2.lt; omega)
    have S6 := S5.below hb6 S5.lt
    have G6 := G5.below hb6 G5.lt
    have B6 := B5.trans (hb6.mono (by have := B5.size; omega))
    have hlen6 := fun ty => ownM_len M6 ty
    rw [← HZ.out] at hlen6
    obtain ⟨hrel, I⟩ := HP.out
    rcases hrel with ⟨x, _⟩ | ⟨_, ⟨x, _⟩ | ⟨_, rfl⟩, hl'⟩
    · cases x
    · cases x
    generalize ex : numAt D' (sk n h) = x at hl'
    generalize est : Maps.has D' (sk n h) = st at hl'
    have HL := hide hl'
    have EX := hide (And.intro ex est)
    have HST : Hid (st = true → kn = true) := by
      intro hx
      rw [← EKN.out]
      rw [← hx, ← est, (I.agree n h hn hh).1]
    clear hl' ex est
    have HXQ : Hid (st = true → x = pq) := by
      intro _
      rw [← EX.out.1, ← EPQ.out, (I.agree n h hn hh).2]
    have OO := hide (out_stay (c2 := c2) (bo := bo) I hk5 C6 L6 M6 R6 HW2.out hn hh HZ.out (cn * 256 + ch))
    have C6' := hide C6
    have S6' := hide S6
    have G6' := hide G6
    have B6' := hide B6
    have L6' := hide L6
    have zc6 := C6.lt
    have zs6 := S6.lt
    have zg6 := G6.lt
    obtain ⟨_, _, _, _, _, _, _, _, _, q9, q10, q11, q12⟩ := S6.cells
    obtain ⟨f0, f1, f2, f3⟩ := G6.cells
    clear S5 G5 R5 B5 hC5 hL5 hM5 kb C6 L6 M6 R6 S6 G6 B6 hb6 F5 HP I
    go_wp2_with fail
    refine OO.out.len.mono ?_
    rintro er w7 ⟨rfl, hw7⟩
    have hw8 := hw7.symm
    clear hw7
    subst hw8
    go_wp2_with fail
    refine OO.out.gone.mono ?_
    rintro er w7 ⟨rfl, hb7⟩
    have C7 := hide (C6'.out.below hb7 zc6)
    have S7 := S6'.out.below hb7 zs6
    have G7 := G6'.out.below hb7 zg6
    have S7' := hide S7
    have L7 := hide ((Kp.ofBelow hb7).lst L6'.out (fun i hi => by have := L6'.out.lt hi; omega))
    have B7 := hide (B6'.out.trans (hb7.mono (by have := B6'.out.size; omega)))
    obtain ⟨_, _, d2, d3, d4, d5, d6, d7, d8, d9, d10, d11, d12⟩ := S7.cells
    obtain ⟨g0, g1, g2, g3⟩ := G7.cells
    have zc7 := C7.out.lt
    have zs7 := S7.lt
    clear L6' C6' S6' G6' B6' zc6 zs6 zg6 q9 q10 q11 q12 f0 f1 f2 f3 S7 G7 hlen6
    cases kn
    · have hst : st = false := by
        cases st
        · rfl
        · exact absurd (HST.out rfl) (by decide)
      have hL : Hid (l' = l) := by have := HL.out; rw [hst] at this; first | exact this | (simp at this; exact this)
      go_wp2_with fail
      go_region_held3 (fun w' => w'.cell? ⟨w.heap.size, 2, none⟩ = some (.int .u64 r) ∧ w'.cell? ⟨w.heap.size, 3, none⟩ = some (.int .u64 t) ∧ w'.cell? ⟨w.heap.size, 4, none⟩ = some (.int .u64 m) ∧ w'.cell? ⟨w.heap.size, 5, none⟩ = some (.int .u64 u) ∧ w'.cell? ⟨w.heap.size, 6, none⟩ = some (.int .u64 p) ∧ w'.cell? ⟨w.heap.size, 7, none⟩ = some (.int .u64 l) ∧ w'.cell? ⟨w.heap.size, 8, none⟩ = some (.int .u64 e))
        (first | (simp [go_sem, d2, d3, d4, d5, d6, d7, d8]; done) | (obtain ⟨_, _, k2, k3, k4, k5, k6, k7, k8, _⟩ := SS8.out.cells; exact ⟨k2, k3, k4, k5, k6, k7, k8⟩) | (obtain ⟨_, _, k2, k3, k4, k5, k6, k7, k8, _⟩ := SS9.out.cells; exact ⟨k2, k3, k4, k5, k6, k7, k8⟩))
        (first
          | (go_at_call 18; refine (zzStats_any _ _ _ _ _ _ _ _ _ _ _ _ _ _ C7.out.drew).mono ?_; rintro er w9 ⟨rfl, hb9⟩; have SS9 := hide (S7'.out.below ((Below.refl _ _).drew.trans hb9) zs7))
          | (go_at_call 17; refine (statsAre_any r t m u p l e 0 l' _ (by have := hL.out; omega)).mono ?_; rintro er w8 ⟨rfl, hb8⟩; have SS8 := hide (SS9.out.below hb8 SS9.out.lt)))
      go_wp2
      go_ret
      have hb9' : Below w.heap.size w7 w9 := (Below.refl _ _).drew.trans (hb9.mono (by simp; have := B7.out.size; omega))
      exact ⟨rfl, (B7.out.trans hb9').trans (hb8.mono (by have := B7.out.size; have := hb9'.size; omega))⟩
    · have OL : Hid (Calls Trym.prog 14 #[.pointer (some ⟨bc, 0, none⟩), .int .u32 n, .int .u8 h] w7 fun er w' => er = .returned (.tuple #[.int .u32 x, .bool st]) ∧ w' = w7) := by
        have := zzLast_any _ _ _ _ n h _ C7.out.last L7.out.last hn hh
        rw [EX.out.1, EX.out.2] at this
        exact this
      cases st
      · have hL : Hid (l' = l) := by have := HL.out; first | exact this | (simp at this; exact this)
        go_wp2_with fail
        refine OL.out.mono ?_
        rintro er w8 ⟨rfl, hw8⟩
        have hw9 := hw8.symm
        clear hw8
        subst hw9
        go_wp2_with fail
        go_region_held3 (fun w' => w'.cell? ⟨w.heap.size, 2, none⟩ = some (.int .u64 r) ∧ w'.cell? ⟨w.heap.size, 3, none⟩ = some (.int .u64 t) ∧ w'.cell? ⟨w.heap.size, 4, none⟩ = some (.int .u64 m) ∧ w'.cell? ⟨w.heap.size, 5, none⟩ = some (.int .u64 u) ∧ w'.cell? ⟨w.heap.size, 6, none⟩ = some (.int .u64 p) ∧ w'.cell? ⟨w.heap.size, 7, none⟩ = some (.int .u64 l) ∧ w'.cell? ⟨w.heap.size, 8, none⟩ = some (.int .u64 e))
          (first | (simp [go_sem, d2, d3, d4, d5, d6, d7, d8]; done) | (obtain ⟨_, _, k2, k3, k4, k5, k6, k7, k8, _⟩ := SS8.out.cells; exact ⟨k2, k3, k4, k5, k6, k7, k8⟩) | (obtain ⟨_, _, k2, k3, k4, k5, k6, k7, k8, _⟩ := SS9.out.cells; exact ⟨k2, k3, k4, k5, k6, k7, k8⟩))
          (first
            | (go_at_call 18; refine (zzStats_any _ _ _ _ _ _ _ _ _ _ _ _ _ _ C7.out.drew).mono ?_; rintro er w9 ⟨rfl, hb9⟩; have SS9 := hide (S7'.out.below ((Below.refl _ _).drew.trans hb9) zs7))
            | (go_at_call 17; refine (statsAre_any r t m u p l e 0 l' _ (by have := hL.out; omega)).mono ?_; rintro er w8 ⟨rfl, hb8⟩; have SS8 := hide (SS9.out.below hb8 SS9.out.lt)))
        go_wp2
        go_ret
        have hb9' : Below w.heap.size w7 w9 := (Below.refl _ _).drew.trans (hb9.mono (by simp; have := B7.out.size; omega))
        exact ⟨rfl, (B7.out.trans hb9').trans (hb8.mono (by have := B7.out.size; have := hb9'.size; omega))⟩
      · have hL : Hid (l' = (l + lostF pq s) % 18446744073709551616) := by have := HL.out; rw [HXQ.out rfl] at this; first | exact this | (simp at this; exact this)
        go_wp2_with fail
        refine OL.out.mono ?_
        rintro er w8 ⟨rfl, hw8⟩
        have hw9 := hw8.symm
        clear hw8
        subst hw9
        go_wp2_with fail
        refine (lostModel_any pq s _ pq0 pq1 s0 s1).mono ?_
        rintro er w8 ⟨rfl, hw8⟩
        have hw9 := hw8.symm
        clear hw8
        subst hw9
        go_wp2_with fail
        go_region_held3 (fun w' => w'.cell? ⟨w.heap.size, 2, none⟩ = some (.int .u64 r) ∧ w'.cell? ⟨w.heap.size, 3, none⟩ = some (.int .u64 t) ∧ w'.cell? ⟨w.heap.size, 4, none⟩ = some (.int .u64 m) ∧ w'.cell? ⟨w.heap.size, 5, none⟩ = some (.int .u64 u) ∧ w'.cell? ⟨w.heap.size, 6, none⟩ = some (.int .u64 p) ∧ w'.cell? ⟨w.heap.size, 7, none⟩ = some (.int .u64 l) ∧ w'.cell? ⟨w.heap.size, 8, none⟩ = some (.int .u64 e))
          (first | (simp [go_sem, d2, d3, d4, d5, d6, d7, d8]; done) | (obtain ⟨_, _, k2, k3, k4, k5, k6, k7, k8, _⟩ := SS8.out.cells; exact ⟨k2, k3, k4, k5, k6, k7, k8⟩) | (obtain ⟨_, _, k2, k3, k4, k5, k6, k7, k8, _⟩ := SS9.out.cells; exact ⟨k2, k3, k4, k5, k6, k7, k8⟩))
          (first
            | (go_at_call 18; refine (zzStats_any _ _ _ _ _ _ _ _ _ _ _ _ _ _ C7.out.drew).mono ?_; rintro er w9 ⟨rfl, hb9⟩; have SS9 := hide (S7'.out.below ((Below.refl _ _).drew.trans hb9) zs7))
            | (go_at_call 17; refine (statsAre_any r t m u p l e (lostF pq s) l' _ (hL.out)).mono ?_; rintro er w8 ⟨rfl, hb8⟩; have SS8 := hide (SS9.out.below hb8 SS9.out.lt)))
        go_wp2
        go_ret
        have hb9' : Below w.heap.size w7 w9 := (Below.refl _ _).drew.trans (hb9.mono (by simp; have := B7.out.size; omega))
        exact ⟨rfl, (B7.out.trans hb9').trans (hb8.mono (by have := B7.out.size; have := hb9'.size; omega))⟩
  · by_cases hne : cn = n ∧ ch = h
    · obtain ⟨x0, y0⟩ := hne
      have x1 := x0.symm
      have y1' := y0.symm
      clear x0 y0
      subst x1
      subst y1'
      clear hlookc
      -- the same source
      go_wp2_with fail
      refine (header_any v h s n _).mono ?_
      rintro er w4 ⟨rfl, hb4⟩
      have F4 := hide hb4
      clear hb4 hlooks hlenM q9 q10 q11 q12 f0 f1 f2 f3
      go_wp2_with fail
      obtain ⟨S4, G4, R4, B4, hctr, hl, hM, I⟩ := F.out
      have kb := Kp.ofBelow F4.out
      have hzs := F4.out.size
      refine (zzSequence_any bc r t m u p l e mv n h cs true D v h s n _ (hctr.below F4.out zc) (kb.lst hl (fun i hi => by have := zmv.out i hi; omega)) hsD hn hh hs hcn hch hcs).mono ?_
      rintro er w5 ⟨rfl, mv', D', l', hrel, hC5, hL5, _, hK5⟩
      have hM5 := hK5.ownM (kb.ownM hM (by omega)) (by rintro (x | x); omega; have := zmv.out _ x; omega)
      have S5 := (S4.below F4.out (by have := B4.size; have := S4.lt; omega)).kp hK5 (by rintro (x | x); omega; have := zmv.out _ x; omega)
      have G5 := (G4.below F4.out G4.lt).kp hK5 (by rintro (x | x); omega; have := zmv.out _ x; omega)
      have R5 : RowE w5 a2 k en eh eq w1.heap.size := by
        rcases HRB.out with hx | hx
        · exact Or.inl hx
        · exact hK5.rowE (kb.rowE R4 (by omega)) (by rintro (x | x); omega; have := zmv.out _ x; omega)
      have B5 := Kp.toBelow (B4.trans (F4.out.mono (by have := B4.size; omega))) hK5 (by have := B4.size; omega) (fun i hi => by rintro (x | x); omega; have := zmv.out _ x; omega)
      have HP := hide (And.intro hrel I)
      have F5 := hide (And.intro S5 (And.intro G5 (And.intro R5 (And.intro B5 (And.intro hC5 (And.intro hL5 hM5))))))
      clear S4 G4 R4 B4 hctr hl hM I F F4 kb hzs zc zm hrel hC5 hL5 hK5 hM5 S5 G5 R5 B5
      go_wp2_with fail
      refine (zzCurrent_any _ _ _ _ _ _ _ _ _ _ _ _ _ _ F5.out.2.2.2.2.1).mono ?_
      rintro er w6 ⟨rfl, hb6⟩
      obtain ⟨S5, G5, R5, B5, hC5, hL5, hM5⟩ := F5.out
      have kb := Kp.ofBelow hb6
      have C6 := hC5.below hb6 hC5.lt
      have L6 := kb.lst hL5 (fun i hi => by have := hL5.lt hi; omega)
      have M6 := kb.ownM hM5 (by have := hM5.lt; omega)
      have R6 : RowE w6 a2 k en eh eq w1.heap.size := by
        rcases R5 with hx | hx
        · exact Or.inl hx
        · exact kb.rowE (Or.inr hx) (by have := hx.2.lt; omega)
      have S6 := S5.below hb6 S5.lt
      have G6 := G5.below hb6 G5.lt
      have B6 := B5.trans (hb6.mono (by have := B5.size; omega))
      have hlen6 := fun ty => ownM_len M6 ty
      rw [← HZ.out] at hlen6
      obtain ⟨hrel, I⟩ := HP.out
      have hD : D' = D ∧ l' = (l + lostF cs s) % 18446744073709551616 := by
        rcases hrel with ⟨_, _, _, hd, hl0⟩ | ⟨x, _⟩
        · exact ⟨hd, hl0⟩
        · exact absurd ⟨rfl, rfl, rfl⟩ x
      obtain ⟨hd, hl0⟩ := hD
      have hL := hide hl0
      clear hl0 hrel
      subst hd
      have OO := hide (out_stay (c2 := c2) (bo := bo) I hk5 C6 L6 M6 R6 HW2.out hn hh HZ.out (n * 256 + h))
      have C6' := hide C6
      have S6' := hide S6
      have G6' := hide G6
      have B6' := hide B6
      have L6' := hide L6
      have zc6 := C6.lt
      have zs6 := S6.lt
      have zg6 := G6.lt
      obtain ⟨_, _, _, _, _, _, _, _, _, q9, q10, q11, q12⟩ := S6.cells
      obtain ⟨f0, f1, f2, f3⟩ := G6.cells
      clear S5 G5 R5 B5 hC5 hL5 hM5 kb C6 L6 M6 R6 S6 G6 B6 hb6 F5 HP I
      go_wp2_with fail
      refine OO.out.len.mono ?_
      rintro er w7 ⟨rfl, hw7⟩
      have hw8 := hw7.symm
      clear hw7
      subst hw8
      go_wp2_with fail
      refine OO.out.gone.mono ?_
      rintro er w7 ⟨rfl, hb7⟩
      have C7 := hide (C6'.out.below hb7 zc6)
      have S7 := S6'.out.below hb7 zs6
      have G7 := G6'.out.below hb7 zg6
      have S7' := hide S7
      have L7 := hide ((Kp.ofBelow hb7).lst L6'.out (fun i hi => by have := L6'.out.lt hi; omega))
      have B7 := hide (B6'.out.trans (hb7.mono (by have := B6'.out.size; omega)))
      obtain ⟨_, _, d2, d3, d4, d5, d6, d7, d8, d9, d10, d11, d12⟩ := S7.cells
      obtain ⟨g0, g1, g2, g3⟩ := G7.cells
      have zc7 := C7.out.lt
      have zs7 := S7.lt
      clear L6' C6' S6' G6' B6' zc6 zs6 zg6 q9 q10 q11 q12 f0 f1 f2 f3 S7 G7 hlen6
      go_wp2_with fail
      refine (lostModel_any cs s _ cs0 cs1 s0 s1).mono ?_
      rintro er w8 ⟨rfl, hw8⟩
      have hw9 := hw8.symm
      clear hw8
      subst hw9
      go_wp2_with fail
      go_region_held3 (fun w' => w'.cell? ⟨w.heap.size, 2, none⟩ = some (.int .u64 r) ∧ w'.cell? ⟨w.heap.size, 3, none⟩ = some (.int .u64 t) ∧ w'.cell? ⟨w.heap.size, 4, none⟩ = some (.int .u64 m) ∧ w'.cell? ⟨w.heap.size, 5, none⟩ = some (.int .u64 u) ∧ w'.cell? ⟨w.heap.size, 6, none⟩ = some (.int .u64 p) ∧ w'.cell? ⟨w.heap.size, 7, none⟩ = some (.int .u64 l) ∧ w'.cell? ⟨w.heap.size, 8, none⟩ = some (.int .u64 e))
        (first | (simp [go_sem, d2, d3, d4, d5, d6, d7, d8]; done) | (obtain ⟨_, _, k2, k3, k4, k5, k6, k7, k8, _⟩ := SS8.out.cells; exact ⟨k2, k3, k4, k5, k6, k7, k8⟩) | (obtain ⟨_, _, k2, k3, k4, k5, k6, k7, k8, _⟩ := SS9.out.cells; exact ⟨k2, k3, k4, k5, k6, k7, k8⟩))
        (first
          | (go_at_call 18; refine (zzStats_any _ _ _ _ _ _ _ _ _ _ _ _ _ _ C7.out.drew).mono ?_; rintro er w9 ⟨rfl, hb9⟩; have SS9 := hide (S7'.out.below ((Below.refl _ _).drew.trans hb9) zs7))
          | (go_at_call 17; refine (statsAre_any r t m u p l e (lostF cs s) l' _ (hL.out)).mono ?_; rintro er w8 ⟨rfl, hb8⟩; have SS8 := hide (SS9.out.below hb8 SS9.out.lt)))
      go_wp2
      go_ret
      have hb9' : Below w.heap.size w7 w9 := (Below.refl _ _).drew.trans (hb9.mono (by simp; have := B7.out.size; omega))
      exact ⟨rfl, (B7.out.trans hb9').trans (hb8.mono (by have := B7.out.size; have := hb9'.size; omega))⟩
    · have hkeq : (cn * 256 + ch == n * 256 + h) = false := by
        rw [beq_eq_false_iff_ne]
        exact fun x => hne ((key_eq_iff hch hh).1 x)
      have hkne : ¬ (cn * 256 + ch = n * 256 + h) := fun x => hne ((key_eq_iff hch hh).1 x)
      generalize hck : Maps.has DM (k64 cn ch) = ck at hlookc
      have HCK := hide hck
      clear hck
      cases ck
      · by_cases hfull : 65536 ≤ z
        · -- full
          go_wp2_with fail
          refine (header_any v h s n _).mono ?_
          rintro er w4 ⟨rfl, hb4⟩
          have F4 := hide hb4
          clear hb4 hlookc hlooks hlenM q9 q10 q11 q12 f0 f1 f2 f3
          go_wp2_with fail
          obtain ⟨S4, G4, R4, B4, hctr, hl, hM, I⟩ := F.out
          have kb := Kp.ofBelow F4.out
          have hzs := F4.out.size
          refine (zzSequence_any bc r t m u p l e mv cn ch cs true D v h s n _ (hctr.below F4.out zc) (kb.lst hl (fun i hi => by have := zmv.out i hi; omega)) hsD hn hh hs hcn hch hcs).mono ?_
          rintro er w5 ⟨rfl, mv', D', l', hrel, hC5, hL5, _, hK5⟩
          have hM5 := hK5.ownM (kb.ownM hM (by omega)) (by rintro (x | x); omega; have := zmv.out _ x; omega)
          have S5 := (S4.below F4.out (by have := B4.size; have := S4.lt; omega)).kp hK5 (by rintro (x | x); omega; have := zmv.out _ x; omega)
          have G5 := (G4.below F4.out G4.lt).kp hK5 (by rintro (x | x); omega; have := zmv.out _ x; omega)
          have R5 : RowE w5 a2 k en eh eq w1.heap.size := by
            rcases HRB.out with hx | hx
            · exact Or.inl hx
            · exact hK5.rowE (kb.rowE R4 (by omega)) (by rintro (x | x); omega; have := zmv.out _ x; omega)
          have B5 := Kp.toBelow (B4.trans (F4.out.mono (by have := B4.size; omega))) hK5 (by have := B4.size; omega) (fun i hi => by rintro (x | x); omega; have := zmv.out _ x; omega)
          have HP := hide (And.intro hrel I)
          have F5 := hide (And.intro S5 (And.intro G5 (And.intro R5 (And.intro B5 (And.intro hC5 (And.intro hL5 hM5))))))
          clear S4 G4 R4 B4 hctr hl hM I F F4 kb hzs zc zm hrel hC5 hL5 hK5 hM5 S5 G5 R5 B5
          go_wp2_with fail
          refine (zzCurrent_any _ _ _ _ _ _ _ _ _ _ _ _ _ _ F5.out.2.2.2.2.1).mono ?_
          rintro er w6 ⟨rfl, hb6⟩
          obtain ⟨S5, G5, R5, B5, hC5, hL5, hM5⟩ := F5.out
          have kb := Kp.ofBelow hb6
          have C6 := hC5.below hb6 hC5.lt
          have L6 := kb.lst hL5 (fun i hi => by have := hL5.lt hi; omega)
          have M6 := kb.ownM hM5 (by have := hM5.lt; omega)
          have R6 : RowE w6 a2 k en eh eq w1.heap.size := by
            rcases R5 with hx | hx
            · exact Or.inl hx
            · exact kb.rowE (Or.inr hx) (by have := hx.2.lt; omega)
          have S6 := S5.below hb6 S5.lt
          have G6 := G5.below hb6 G5.lt
          have B6 := B5.trans (hb6.mono (by have := B5.size; omega))
          have hlen6 := fun ty => ownM_len M6 ty
          rw [← HZ.out] at hlen6
          obtain ⟨hrel, I⟩ := HP.out
          rcases hrel with ⟨_, x, y, _⟩ | ⟨_, ⟨_, hrem⟩ | ⟨x, _⟩, hl'⟩
          · exact absurd ⟨x, y⟩ hne
          rotate_left
          · cases x
          obtain ⟨OO, OC, OX⟩ := out_move (c2 := c2) (bo := bo) I hrem hk5 C6 L6 M6 R6 HW2.out hn hh hcn hch hne HZ.out
          generalize ex : numAt D' (sk n h) = x at hl'
          generalize est : Maps.has D' (sk n h) = st at hl'
          have HL := hide hl'
          have EX := hide (And.intro ex est)
          have HST : Hid (st = true → kn = true) := by
            intro hx
            rw [← EKN.out]
            exact (OX (est.trans hx)).1
          clear hl' ex est
          have HXQ : Hid (st = true → x = pq) := by
            intro hx
            rw [← EX.out.1, ← EPQ.out]
            exact (OX (EX.out.2.trans hx)).2
          clear OX hrem
          have OC := hide OC
          rw [if_pos (Or.inr hfull), if_pos ⟨HCK.out, hfull⟩] at OO
          have OO := hide OO
          have C6' := hide C6
          have S6' := hide S6
          have G6' := hide G6
          have B6' := hide B6
          have L6' := hide L6
          have zc6 := C6.lt
          have zs6 := S6.lt
          have zg6 := G6.lt
          obtain ⟨_, _, _, _, _, _, _, _, _, q9, q10, q11, q12⟩ := S6.cells
          obtain ⟨f0, f1, f2, f3⟩ := G6.cells
          clear S5 G5 R5 B5 hC5 hL5 hM5 kb C6 L6 M6 R6 S6 G6 B6 hb6 F5 HP I
          go_wp2_with fail
          refine OO.out.len.mono ?_
          rintro er w7 ⟨rfl, hw7⟩
          have hw8 := hw7.symm
          clear hw7
          subst hw8
          go_wp2_with fail
          refine OC.out.mono ?_
          rintro er w7 ⟨rfl, hw7⟩
          have hw8 := hw7.symm
          clear hw7
          subst hw8
          go_wp2_with fail
          refine OO.out.gone.mono ?_
          rintro er w7 ⟨rfl, hb7⟩
          have C7 := hide (C6'.out.below hb7 zc6)
          have S7 := S6'.out.below hb7 zs6
          have G7 := G6'.out.below hb7 zg6
          have S7' := hide S7
          have L7 := hide ((Kp.ofBelow hb7).lst L6'.out (fun i hi => by have := L6'.out.lt hi; omega))
          have B7 := hide (B6'.out.trans (hb7.mono (by have := B6'.out.size; omega)))
          obtain ⟨_, _, d2, d3, d4, d5, d6, d7, d8, d9, d10, d11, d12⟩ := S7.cells
          obtain ⟨g0, g1, g2, g3⟩ := G7.cells
          have zc7 := C7.out.lt
          have zs7 := S7.lt
          clear L6' C6' S6' G6' B6' zc6 zs6 zg6 q9 q10 q11 q12 f0 f1 f2 f3 S7 G7 hlen6
          cases kn
          · have hst : st = false := by
              cases st
              · rfl
              · exact absurd (HST.out rfl) (by decide)
            have hL : Hid (l' = l) := by have := HL.out; rw [hst] at this; first | exact this | (simp at this; exact this)
            go_wp2_with fail
            go_region_held3 (fun w' => w'.cell? ⟨w.heap.size, 2, none⟩ = some (.int .u64 r) ∧ w'.cell? ⟨w.heap.size, 3, none⟩ = some (.int .u64 t) ∧ w'.cell? ⟨w.heap.size, 4, none⟩ = some (.int .u64 m) ∧ w'.cell? ⟨w.heap.size, 5, none⟩ = some (.int .u64 u) ∧ w'.cell? ⟨w.heap.size, 6, none⟩ = some (.int .u64 p) ∧ w'.cell? ⟨w.heap.size, 7, none⟩ = some (.int .u64 l) ∧ w'.cell? ⟨w.heap.size, 8, none⟩ = some (.int .u64 e))
              (first | (simp [go_sem, d2, d3, d4, d5, d6, d7, d8]; done) | (obtain ⟨_, _, k2, k3, k4, k5, k6, k7, k8, _⟩ := SS8.out.cells; exact ⟨k2, k3, k4, k5, k6, k7, k8⟩) | (obtain ⟨_, _, k2, k3, k4, k5, k6, k7, k8, _⟩ := SS9.out.cells; exact ⟨k2, k3, k4, k5, k6, k7, k8⟩))
              (first
                | (go_at_call 18; refine (zzStats_any _ _ _ _ _ _ _ _ _ _ _ _ _ _ C7.out.drew).mono ?_; rintro er w9 ⟨rfl, hb9⟩; have SS9 := hide (S7'.out.below ((Below.refl _ _).drew.trans hb9) zs7))
                | (go_at_call 17; refine (statsAre_any r t m u p l e 0 l' _ (by have := hL.out; omega)).mono ?_; rintro er w8 ⟨rfl, hb8⟩; have SS8 := hide (SS9.out.below hb8 SS9.out.lt)))
            go_wp2
            go_ret
            have hb9' : Below w.heap.size w7 w9 := (Below.refl _ _).drew.trans (hb9.mono (by simp; have := B7.out.size; omega))
            exact ⟨rfl, (B7.out.trans hb9').trans (hb8.mono (by have := B7.out.size; have := hb9'.size; omega))⟩
          · have OL : Hid (Calls Trym.prog 14 #[.pointer (some ⟨bc, 0, none⟩), .int .u32 n, .int .u8 h] w7 fun er w' => er = .returned (.tuple #[.int .u32 x, .bool st]) ∧ w' = w7) := by
              have := zzLast_any _ _ _ _ n h _ C7.out.last L7.out.last hn hh
              rw [EX.out.1, EX.out.2] at this
              exact this
            cases st
            · have hL : Hid (l' = l) := by have := HL.out; first | exact this | (simp at this; exact this)
              go_wp2_with fail
              refine OL.out.mono ?_
              rintro er w8 ⟨rfl, hw8⟩
              have hw9 := hw8.symm
              clear hw8
              subst hw9
              go_wp2_with fail
              go_region_held3 (fun w' => w'.cell? ⟨w.heap.size, 2, none⟩ = some (.int .u64 r) ∧ w'.cell? ⟨w.heap.size, 3, none⟩ = some (.int .u64 t) ∧ w'.cell? ⟨w.heap.size, 4, none⟩ = some (.int .u64 m) ∧ w'.cell? ⟨w.heap.size, 5, none⟩ = some (.int .u64 u) ∧ w'.cell? ⟨w.heap.size, 6, none⟩ = some (.int .u64 p) ∧ w'.cell? ⟨w.heap.size, 7, none⟩ = some (.int .u64 l) ∧ w'.cell? ⟨w.heap.size, 8, none⟩ = some (.int .u64 e))
                (first | (simp [go_sem, d2, d3, d4, d5, d6, d7, d8]; done) | (obtain ⟨_, _, k2, k3, k4, k5, k6, k7, k8, _⟩ := SS8.out.cells; exact ⟨k2, k3, k4, k5, k6, k7, k8⟩) | (obtain ⟨_, _, k2, k3, k4, k5, k6, k7, k8, _⟩ := SS9.out.cells; exact ⟨k2, k3, k4, k5, k6, k7, k8⟩))
                (first
                  | (go_at_call 18; refine (zzStats_any _ _ _ _ _ _ _ _ _ _ _ _ _ _ C7.out.drew).mono ?_; rintro er w9 ⟨rfl, hb9⟩; have SS9 := hide (S7'.out.below ((Below.refl _ _).drew.trans hb9) zs7))
                  | (go_at_call 17; refine (statsAre_any r t m u p l e 0 l' _ (by have := hL.out; omega)).mono ?_; rintro er w8 ⟨rfl, hb8⟩; have SS8 := hide (SS9.out.below hb8 SS9.out.lt)))
              go_wp2
              go_ret
              have hb9' : Below w.heap.size w7 w9 := (Below.refl _ _).drew.trans (hb9.mono (by simp; have := B7.out.size; omega))
              exact ⟨rfl, (B7.out.trans hb9').trans (hb8.mono (by have := B7.out.size; have := hb9'.size; omega))⟩
            · have hL : Hid (l' = (l + lostF pq s) % 18446744073709551616) := by have := HL.out; rw [HXQ.out rfl] at this; first | exact this | (simp at this; exact this)
              go_wp2_with fail
              refine OL.out.mono ?_
              rintro er w8 ⟨rfl, hw8⟩
              have hw9 := hw8.symm
              clear hw8
              subst hw9
              go_wp2_with fail
              refine (lostModel_any pq s _ pq0 pq1 s0 s1).mono ?_
              rintro er w8 ⟨rfl, hw8⟩
              have hw9 := hw8.symm
              clear hw8
              subst hw9
              go_wp2_with fail
              go_region_held3 (fun w' => w'.cell? ⟨w.heap.size, 2, none⟩ = some (.int .u64 r) ∧ w'.cell? ⟨w.heap.size, 3, none⟩ = some (.int .u64 t) ∧ w'.cell? ⟨w.heap.size, 4, none⟩ = some (.int .u64 m) ∧ w'.cell? ⟨w.heap.size, 5, none⟩ = some (.int .u64 u) ∧ w'.cell? ⟨w.heap.size, 6, none⟩ = some (.int .u64 p) ∧ w'.cell? ⟨w.heap.size, 7, none⟩ = some (.int .u64 l) ∧ w'.cell? ⟨w.heap.size, 8, none⟩ = some (.int .u64 e))
                (first | (simp [go_sem, d2, d3, d4, d5, d6, d7, d8]; done) | (obtain ⟨_, _, k2, k3, k4, k5, k6, k7, k8, _⟩ := SS8.out.cells; exact ⟨k2, k3, k4, k5, k6, k7, k8⟩) | (obtain ⟨_, _, k2, k3, k4, k5, k6, k7, k8, _⟩ := SS9.out.cells; exact ⟨k2, k3, k4, k5, k6, k7, k8⟩))
                (first
                  | (go_at_call 18; refine (zzStats_any _ _ _ _ _ _ _ _ _ _ _ _ _ _ C7.out.drew).mono ?_; rintro er w9 ⟨rfl, hb9⟩; have SS9 := hide (S7'.out.below ((Below.refl _ _).drew.trans hb9) zs7))
                  | (go_at_call 17; refine (statsAre_any r t m u p l e (lostF pq s) l' _ (hL.out)).mono ?_; rintro er w8 ⟨rfl, hb8⟩; have SS8 := hide (SS9.out.below hb8 SS9.out.lt)))
              go_wp2
              go_ret
              have hb9' : Below w.heap.size w7 w9 := (Below.refl _ _).drew.trans (hb9.mono (by simp; have := B7.out.size; omega))
              exact ⟨rfl, (B7.out.trans hb9').trans (hb8.mono (by have := B7.out.size; have := hb9'.size; omega))⟩
        · have hroom : z < 65536 := by omega
          have hfb : decide (65536 ≤ z) = false := by simp; omega
          go_wp2_with fail
          refine (header_any v h s n _).mono ?_
          rintro er w4 ⟨rfl, hb4⟩
          have F4 := hide hb4
          clear hb4 hlookc hlooks hlenM q9 q10 q11 q12 f0 f1 f2 f3
          go_wp2_with fail
          obtain ⟨S4, G4, R4, B4, hctr, hl, hM, I⟩ := F.out
          have kb := Kp.ofBelow F4.out
          have hzs := F4.out.size
          refine (zzSequence_any bc r t m u p l e mv cn ch cs true D v h s n _ (hctr.below F4.out zc) (kb.lst hl (fun i hi => by have := zmv.out i hi; omega)) hsD hn hh hs hcn hch hcs).mono ?_
          rintro er w5 ⟨rfl, mv', D', l', hrel, hC5, hL5, _, hK5⟩
          have hM5 := hK5.ownM (kb.ownM hM (by omega)) (by rintro (x | x); omega; have := zmv.out _ x; omega)
          have S5 := (S4.below F4.out (by have := B4.size; have := S4.lt; omega)).kp hK5 (by rintro (x | x); omega; have := zmv.out _ x; omega)
          have G5 := (G4.below F4.out G4.lt).kp hK5 (by rintro (x | x); omega; have := zmv.out _ x; omega)
          have R5 : RowE w5 a2 k en eh eq w1.heap.size := by
            rcases HRB.out with hx | hx
            · exact Or.inl hx
            · exact hK5.rowE (kb.rowE R4 (by omega)) (by rintro (x | x); omega; have := zmv.out _ x; omega)
          have B5 := Kp.toBelow (B4.trans (F4.out.mono (by have := B4.size; omega))) hK5 (by have := B4.size; omega) (fun i hi => by rintro (x | x); omega; have := zmv.out _ x; omega)
          have HP := hide (And.intro hrel I)
          have F5 := hide (And.intro S5 (And.intro G5 (And.intro R5 (And.intro B5 (And.intro hC5 (And.intro hL5 hM5))))))
          clear S4 G4 R4 B4 hctr hl hM I F F4 kb hzs zc zm hrel hC5 hL5 hK5 hM5 S5 G5 R5 B5
          go_wp2_with fail
          refine (zzCurrent_any _ _ _ _ _ _ _ _ _ _ _ _ _ _ F5.out.2.2.2.2.1).mono ?_
          rintro er w6 ⟨rfl, hb6⟩
          obtain ⟨S5, G5, R5, B5, hC5, hL5, hM5⟩ := F5.out
          have kb := Kp.ofBelow hb6
          have C6 := hC5.below hb6 hC5.lt
          have L6 := kb.lst hL5 (fun i hi => by have := hL5.lt hi; omega)
          have M6 := kb.ownM hM5 (by have := hM5.lt; omega)
          have R6 : RowE w6 a2 k en eh eq w1.heap.size := by
            rcases R5 with hx | hx
            · exact Or.inl hx
            · exact kb.rowE (Or.inr hx) (by have := hx.2.lt; omega)
          have S6 := S5.below hb6 S5.lt
          have G6 := G5.below hb6 G5.lt
          have B6 := B5.trans (hb6.mono (by have := B5.size; omega))
          have hlen6 := fun ty => ownM_len M6 ty
          rw [← HZ.out] at hlen6
          obtain ⟨hrel, I⟩ := HP.out
          rcases hrel with ⟨_, x, y, _⟩ | ⟨_, ⟨_, hrem⟩ | ⟨x, _⟩, hl'⟩
          · exact absurd ⟨x, y⟩ hne
          rotate_left
          · cases x
          obtain ⟨OO, OC, OX⟩ := out_move (c2 := c2) (bo := bo) I hrem hk5 C6 L6 M6 R6 HW2.out hn hh hcn hch hne HZ.out
          generalize ex : numAt D' (sk n h) = x at hl'
          generalize est : Maps.has D' (sk n h) = st at hl'
          have HL := hide hl'
          have EX := hide (And.intro ex est)
          have HST : Hid (st = true → kn = true) := by
            intro hx
            rw [← EKN.out]
            exact (OX (est.trans hx)).1
          clear hl' ex est
          have HXQ : Hid (st = true → x = pq) := by
            intro hx
            rw [← EX.out.1, ← EPQ.out]
            exact (OX (EX.out.2.trans hx)).2
          clear OX hrem
          have OC := hide OC
          rw [if_neg (by rintro (x | x); rw [HCK.out] at x; cases x; omega), if_neg (fun x => by omega)] at OO
          have OO := hide OO
          have C6' := hide C6
          have S6' := hide S6
          have G6' := hide G6
          have B6' := hide B6
          have L6' := hide L6
          have zc6 := C6.lt
          have zs6 := S6.lt
          have zg6 := G6.lt
          obtain ⟨_, _, _, _, _, _, _, _, _, q9, q10, q11, q12⟩ := S6.cells
          obtain ⟨f0, f1, f2, f3⟩ := G6.cells
          clear S5 G5 R5 B5 hC5 hL5 hM5 kb C6 L6 M6 R6 S6 G6 B6 hb6 F5 HP I
          go_wp2_with fail
          refine OO.out.len.mono ?_
          rintro er w7 ⟨rfl, hw7⟩
          have hw8 := hw7.symm
          clear hw7
          subst hw8
          go_wp2_with fail
          refine OC.out.mono ?_
          rintro er w7 ⟨rfl, hw7⟩
          have hw8 := hw7.symm
          clear hw7
          subst hw8
          go_wp2_with fail
          refine OO.out.gone.mono ?_
          rintro er w7 ⟨rfl, hb7⟩
          have C7 := hide (C6'.out.below hb7 zc6)
          have S7 := S6'.out.below hb7 zs6
          have G7 := G6'.out.below hb7 zg6
          have S7' := hide S7
          have L7 := hide ((Kp.ofBelow hb7).lst L6'.out (fun i hi => by have := L6'.out.lt hi; omega))
          have B7 := hide (B6'.out.trans (hb7.mono (by have := B6'.out.size; omega)))
          obtain ⟨_, _, d2, d3, d4, d5, d6, d7, d8, d9, d10, d11, d12⟩ := S7.cells
          obtain ⟨g0, g1, g2, g3⟩ := G7.cells
          have zc7 := C7.out.lt
          have zs7 := S7.lt
          clear L6' C6' S6' G6' B6' zc6 zs6 zg6 q9 q10 q11 q12 f0 f1 f2 f3 S7 G7 hlen6
          cases kn
          · have hst : st = false := by
              cases st
              · rfl
              · exact absurd (HST.out rfl) (by decide)
            have hL : Hid (l' = l) := by have := HL.out; rw [hst] at this; first | exact this | (simp at this; exact this)
            go_wp2_with fail
            go_region_held3 (fun w' => w'.cell? ⟨w.heap.size, 2, none⟩ = some (.int .u64 r) ∧ w'.cell? ⟨w.heap.size, 3, none⟩ = some (.int .u64 t) ∧ w'.cell? ⟨w.heap.size, 4, none⟩ = some (.int .u64 m) ∧ w'.cell? ⟨w.heap.size, 5, none⟩ = some (.int .u64 u) ∧ w'.cell? ⟨w.heap.size, 6, none⟩ = some (.int .u64 p) ∧ w'.cell? ⟨w.heap.size, 7, none⟩ = some (.int .u64 l) ∧ w'.cell? ⟨w.heap.size, 8, none⟩ = some (.int .u64 e))
              (first | (simp [go_sem, d2, d3, d4, d5, d6, d7, d8]; done) | (obtain ⟨_, _, k2, k3, k4, k5, k6, k7, k8, _⟩ := SS8.out.cells; exact ⟨k2, k3, k4, k5, k6, k7, k8⟩) | (obtain ⟨_, _, k2, k3, k4, k5, k6, k7, k8, _⟩ := SS9.out.cells; exact ⟨k2, k3, k4, k5, k6, k7, k8⟩))
              (first
                | (go_at_call 18; refine (zzStats_any _ _ _ _ _ _ _ _ _ _ _ _ _ _ C7.out.drew).mono ?_; rintro er w9 ⟨rfl, hb9⟩; have SS9 := hide (S7'.out.below ((Below.refl _ _).drew.trans hb9) zs7))
                | (go_at_call 17; refine (statsAre_any r t m u p l e 0 l' _ (by have := hL.out; omega)).mono ?_; rintro er w8 ⟨rfl, hb8⟩; have SS8 := hide (SS9.out.below hb8 SS9.out.lt)))
            go_wp2
            go_ret
            have hb9' : Below w.heap.size w7 w9 := (Below.refl _ _).drew.trans (hb9.mono (by simp; have := B7.out.size; omega))
            exact ⟨rfl, (B7.out.trans hb9').trans (hb8.mono (by have := B7.out.size; have := hb9'.size; omega))⟩
          · have OL : Hid (Calls Trym.prog 14 #[.pointer (some ⟨bc, 0, none⟩), .int .u32 n, .int .u8 h] w7 fun er w' => er = .returned (.tuple #[.int .u32 x, .bool st]) ∧ w' = w7) := by
              have := zzLast_any _ _ _ _ n h _ C7.out.last L7.out.last hn hh
              rw [EX.out.1, EX.out.2] at this
              exact this
            cases st
            · have hL : Hid (l' = l) := by have := HL.out; first | exact this | (simp at this; exact this)
              go_wp2_with fail
              refine OL.out.mono ?_
              rintro er w8 ⟨rfl, hw8⟩
              have hw9 := hw8.symm
              clear hw8
              subst hw9
              go_wp2_with fail
              go_region_held3 (fun w' => w'.cell? ⟨w.heap.size, 2, none⟩ = some (.int .u64 r) ∧ w'.cell? ⟨w.heap.size, 3, none⟩ = some (.int .u64 t) ∧ w'.cell? ⟨w.heap.size, 4, none⟩ = some (.int .u64 m) ∧ w'.cell? ⟨w.heap.size, 5, none⟩ = some (.int .u64 u) ∧ w'.cell? ⟨w.heap.size, 6, none⟩ = some (.int .u64 p) ∧ w'.cell? ⟨w.heap.size, 7, none⟩ = some (.int .u64 l) ∧ w'.cell? ⟨w.heap.size, 8, none⟩ = some (.int .u64 e))
                (first | (simp [go_sem, d2, d3, d4, d5, d6, d7, d8]; done) | (obtain ⟨_, _, k2, k3, k4, k5, k6, k7, k8, _⟩ := SS8.out.cells; exact ⟨k2, k3, k4, k5, k6, k7, k8⟩) | (obtain ⟨_, _, k2, k3, k4, k5, k6, k7, k8, _⟩ := SS9.out.cells; exact ⟨k2, k3, k4, k5, k6, k7, k8⟩))
                (first
                  | (go_at_call 18; refine (zzStats_any _ _ _ _ _ _ _ _ _ _ _ _ _ _ C7.out.drew).mono ?_; rintro er w9 ⟨rfl, hb9⟩; have SS9 := hide (S7'.out.below ((Below.refl _ _).drew.trans hb9) zs7))
                  | (go_at_call 17; refine (statsAre_any r t m u p l e 0 l' _ (by have := hL.out; omega)).mono ?_; rintro er w8 ⟨rfl, hb8⟩; have SS8 := hide (SS9.out.below hb8 SS9.out.lt)))
              go_wp2
              go_ret
              have hb9' : Below w.heap.size w7 w9 := (Below.refl _ _).drew.trans (hb9.mono (by simp; have := B7.out.size; omega))
              exact ⟨rfl, (B7.out.trans hb9').trans (hb8.mono (by have := B7.out.size; have := hb9'.size; omega))⟩
            · have hL : Hid (l' = (l + lostF pq s) % 18446744073709551616) := by have := HL.out; rw [HXQ.out rfl] at this; first | exact this | (simp at this; exact this)
              go_wp2_with fail
              refine OL.out.mono ?_
              rintro er w8 ⟨rfl, hw8⟩
              have hw9 := hw8.symm
              clear hw8
              subst hw9
              go_wp2_with fail
              refine (lostModel_any pq s _ pq0 pq1 s0 s1).mono ?_
              rintro er w8 ⟨rfl, hw8⟩
              have hw9 := hw8.symm
              clear hw8
              subst hw9
              go_wp2_with fail
              go_region_held3 (fun w' => w'.cell? ⟨w.heap.size, 2, none⟩ = some (.int .u64 r) ∧ w'.cell? ⟨w.heap.size, 3, none⟩ = some (.int .u64 t) ∧ w'.cell? ⟨w.heap.size, 4, none⟩ = some (.int .u64 m) ∧ w'.cell? ⟨w.heap.size, 5, none⟩ = some (.int .u64 u) ∧ w'.cell? ⟨w.heap.size, 6, none⟩ = some (.int .u64 p) ∧ w'.cell? ⟨w.heap.size, 7, none⟩ = some (.int .u64 l) ∧ w'.cell? ⟨w.heap.size, 8, none⟩ = some (.int .u64 e))
                (first | (simp [go_sem, d2, d3, d4, d5, d6, d7, d8]; done) | (obtain ⟨_, _, k2, k3, k4, k5, k6, k7, k8, _⟩ := SS8.out.cells; exact ⟨k2, k3, k4, k5, k6, k7, k8⟩) | (obtain ⟨_, _, k2, k3, k4, k5, k6, k7, k8, _⟩ := SS9.out.cells; exact ⟨k2, k3, k4, k5, k6, k7, k8⟩))
                (first
                  | (go_at_call 18; refine (zzStats_any _ _ _ _ _ _ _ _ _ _ _ _ _ _ C7.out.drew).mono ?_; rintro er w9 ⟨rfl, hb9⟩; have SS9 := hide (S7'.out.below ((Below.refl _ _).drew.trans hb9) zs7))
                  | (go_at_call 17; refine (statsAre_any r t m u p l e (lostF pq s) l' _ (hL.out)).mono ?_; rintro er w8 ⟨rfl, hb8⟩; have SS8 := hide (SS9.out.below hb8 SS9.out.lt)))
              go_wp2
              go_ret
              have hb9' : Below w.heap.size w7 w9 := (Below.refl _ _).drew.trans (hb9.mono (by simp; have := B7.out.size; omega))
              exact ⟨rfl, (B7.out.trans hb9').trans (hb8.mono (by have := B7.out.size; have := hb9'.size; omega))⟩
      · -- known
        go_wp2_with fail
        refine (header_any v h s n _).mono ?_
        rintro er w4 ⟨rfl, hb4⟩
        have F4 := hide hb4
        clear hb4 hlookc hlooks hlenM q9 q10 q11 q12 f0 f1 f2 f3
        go_wp2_with fail
        obtain ⟨S4, G4, R4, B4, hctr, hl, hM, I⟩ := F.out
        have kb := Kp.ofBelow F4.out
        have hzs := F4.out.size
        refine (zzSequence_any bc r t m u p l e mv cn ch cs true D v h s n _ (hctr.below F4.out zc) (kb.lst hl (fun i hi => by have := zmv.out i hi; omega)) hsD hn hh hs hcn hch hcs).mono ?_
        rintro er w5 ⟨rfl, mv', D', l', hrel, hC5, hL5, _, hK5⟩
        have hM5 := hK5.ownM (kb.ownM hM (by omega)) (by rintro (x | x); omega; have := zmv.out _ x; omega)
        have S5 := (S4.below F4.out (by have := B4.size; have := S4.lt; omega)).kp hK5 (by rintro (x | x); omega; have := zmv.out _ x; omega)
        have G5 := (G4.below F4.out G4.lt).kp hK5 (by rintro (x | x); omega; have := zmv.out _ x; omega)
        have R5 : RowE w5 a2 k en eh eq w1.heap.size := by
          rcases HRB.out with hx | hx
          · exact Or.inl hx
          · exact hK5.rowE (kb.rowE R4 (by omega)) (by rintro (x | x); omega; have := zmv.out _ x; omega)
        have B5 := Kp.toBelow (B4.trans (F4.out.mono (by have := B4.size; omega))) hK5 (by have := B4.size; omega) (fun i hi => by rintro (x | x); omega; have := zmv.out _ x; omega)
        have HP := hide (And.intro hrel I)
        have F5 := hide (And.intro S5 (And.intro G5 (And.intro R5 (And.intro B5 (And.intro hC5 (And.intro hL5 hM5))))))
        clear S4 G4 R4 B4 hctr hl hM I F F4 kb hzs zc zm hrel hC5 hL5 hK5 hM5 S5 G5 R5 B5
        go_wp2_with fail
        refine (zzCurrent_any _ _ _ _ _ _ _ _ _ _ _ _ _ _ F5.out.2.2.2.2.1).mono ?_
        rintro er w6 ⟨rfl, hb6⟩
        obtain ⟨S5, G5, R5, B5, hC5, hL5, hM5⟩ := F5.out
        have kb := Kp.ofBelow hb6
        have C6 := hC5.below hb6 hC5.lt
        have L6 := kb.lst hL5 (fun i hi => by have := hL5.lt hi; omega)
        have M6 := kb.ownM hM5 (by have := hM5.lt; omega)
        have R6 : RowE w6 a2 k en eh eq w1.heap.size := by
          rcases R5 with hx | hx
          · exact Or.inl hx
          · exact kb.rowE (Or.inr hx) (by have := hx.2.lt; omega)
        have S6 := S5.below hb6 S5.lt
        have G6 := G5.below hb6 G5.lt
        have B6 := B5.trans (hb6.mono (by have := B5.size; omega))
        have hlen6 := fun ty => ownM_len M6 ty
        rw [← HZ.out] at hlen6
        obtain ⟨hrel, I⟩ := HP.out
        rcases hrel with ⟨_, x, y, _⟩ | ⟨_, ⟨_, hrem⟩ | ⟨x, _⟩, hl'⟩
        · exact absurd ⟨x, y⟩ hne
        rotate_left
        · cases x
        obtain ⟨OO, OC, OX⟩ := out_move (c2 := c2) (bo := bo) I hrem hk5 C6 L6 M6 R6 HW2.out hn hh hcn hch hne HZ.out
        generalize ex : numAt D' (sk n h) = x at hl'
        generalize est : Maps.has D' (sk n h) = st at hl'
        have HL := hide hl'
        have EX := hide (And.intro ex est)
        have HST : Hid (st = true → kn = true) := by
          intro hx
          rw [← EKN.out]
          exact (OX (est.trans hx)).1
        clear hl' ex est
        have HXQ : Hid (st = true → x = pq) := by
          intro hx
          rw [← EX.out.1, ← EPQ.out]
          exact (OX (EX.out.2.trans hx)).2
        clear OX hrem
        have OC := hide OC
        rw [if_pos (Or.inl HCK.out), if_neg (fun x => by rw [HCK.out] at x; cases x.1)] at OO
        have OO := hide OO
        have C6' := hide C6
        have S6' := hide S6
        have G6' := hide G6
        have B6' := hide B6
        have L6' := hide L6
        have zc6 := C6.lt
        have zs6 := S6.lt
        have zg6 := G6.lt
        obtain ⟨_, _, _, _, _, _, _, _, _, q9, q10, q11, q12⟩ := S6.cells
        obtain ⟨f0, f1, f2, f3⟩ := G6.cells
        clear S5 G5 R5 B5 hC5 hL5 hM5 kb C6 L6 M6 R6 S6 G6 B6 hb6 F5 HP I
        go_wp2_with fail
        refine OO.out.len.mono ?_
        rintro er w7 ⟨rfl, hw7⟩
        have hw8 := hw7.symm
        clear hw7
        subst hw8
        go_wp2_with fail
        refine OC.out.mono ?_
        rintro er w7 ⟨rfl, hw7⟩
        have hw8 := hw7.symm
        clear hw7
        subst hw8
        go_wp2_with fail
        refine OO.out.gone.mono ?_
        rintro er w7 ⟨rfl, hb7⟩
        have C7 := hide (C6'.out.below hb7 zc6)
        have S7 := S6'.out.below hb7 zs6
        have G7 := G6'.out.below hb7 zg6
        have S7' := hide S7
        have L7 := hide ((Kp.ofBelow hb7).lst L6'.out (fun i hi => by have := L6'.out.lt hi; omega))
        have B7 := hide (B6'.out.trans (hb7.mono (by have := B6'.out.size; omega)))
        obtain ⟨_, _, d2, d3, d4, d5, d6, d7, d8, d9, d10, d11, d12⟩ := S7.cells
        obtain ⟨g0, g1, g2, g3⟩ := G7.cells
        have zc7 := C7.out.lt
        have zs7 := S7.lt
        clear L6' C6' S6' G6' B6' zc6 zs6 zg6 q9 q10 q11 q12 f0 f1 f2 f3 S7 G7 hlen6
        cases kn
        · have hst : st = false := by
            cases st
            · rfl
            · exact absurd (HST.out rfl) (by decide)
          have hL : Hid (l' = l) := by have := HL.out; rw [hst] at this; first | exact this | (simp at this; exact this)
          go_wp2_with fail
          go_region_held3 (fun w' => w'.cell? ⟨w.heap.size, 2, none⟩ = some (.int .u64 r) ∧ w'.cell? ⟨w.heap.size, 3, none⟩ = some (.int .u64 t) ∧ w'.cell? ⟨w.heap.size, 4, none⟩ = some (.int .u64 m) ∧ w'.cell? ⟨w.heap.size, 5, none⟩ = some (.int .u64 u) ∧ w'.cell? ⟨w.heap.size, 6, none⟩ = some (.int .u64 p) ∧ w'.cell? ⟨w.heap.size, 7, none⟩ = some (.int .u64 l) ∧ w'.cell? ⟨w.heap.size, 8, none⟩ = some (.int .u64 e))
            (first | (simp [go_sem, d2, d3, d4, d5, d6, d7, d8]; done) | (obtain ⟨_, _, k2, k3, k4, k5, k6, k7, k8, _⟩ := SS8.out.cells; exact ⟨k2, k3, k4, k5, k6, k7, k8⟩) | (obtain ⟨_, _, k2, k3, k4, k5, k6, k7, k8, _⟩ := SS9.out.cells; exact ⟨k2, k3, k4, k5, k6, k7, k8⟩))
            (first
              | (go_at_call 18; refine (zzStats_any _ _ _ _ _ _ _ _ _ _ _ _ _ _ C7.out.drew).mono ?_; rintro er w9 ⟨rfl, hb9⟩; have SS9 := hide (S7'.out.below ((Below.refl _ _).drew.trans hb9) zs7))
              | (go_at_call 17; refine (statsAre_any r t m u p l e 0 l' _ (by have := hL.out; omega)).mono ?_; rintro er w8 ⟨rfl, hb8⟩; have SS8 := hide (SS9.out.below hb8 SS9.out.lt)))
          go_wp2
          go_ret
          have hb9' : Below w.heap.size w7 w9 := (Below.refl _ _).drew.trans (hb9.mono (by simp; have := B7.out.size; omega))
          exact ⟨rfl, (B7.out.trans hb9').trans (hb8.mono (by have := B7.out.size; have := hb9'.size; omega))⟩
        · have OL : Hid (Calls Trym.prog 14 #[.pointer (some ⟨bc, 0, none⟩), .int .u32 n, .int .u8 h] w7 fun er w' => er = .returned (.tuple #[.int .u32 x, .bool st]) ∧ w' = w7) := by
            have := zzLast_any _ _ _ _ n h _ C7.out.last L7.out.last hn hh
            rw [EX.out.1, EX.out.2] at this
            exact this
          cases st
          · have hL : Hid (l' = l) := by have := HL.out; first | exact this | (simp at this; exact this)
            go_wp2_with fail
            refine OL.out.mono ?_
            rintro er w8 ⟨rfl, hw8⟩
            have hw9 := hw8.symm
            clear hw8
            subst hw9
            go_wp2_with fail
            go_region_held3 (fun w' => w'.cell? ⟨w.heap.size, 2, none⟩ = some (.int .u64 r) ∧ w'.cell? ⟨w.heap.size, 3, none⟩ = some (.int .u64 t) ∧ w'.cell? ⟨w.heap.size, 4, none⟩ = some (.int .u64 m) ∧ w'.cell? ⟨w.heap.size, 5, none⟩ = some (.int .u64 u) ∧ w'.cell? ⟨w.heap.size, 6, none⟩ = some (.int .u64 p) ∧ w'.cell? ⟨w.heap.size, 7, none⟩ = some (.int .u64 l) ∧ w'.cell? ⟨w.heap.size, 8, none⟩ = some (.int .u64 e))
              (first | (simp [go_sem, d2, d3, d4, d5, d6, d7, d8]; done) | (obtain ⟨_, _, k2, k3, k4, k5, k6, k7, k8, _⟩ := SS8.out.cells; exact ⟨k2, k3, k4, k5, k6, k7, k8⟩) | (obtain ⟨_, _, k2, k3, k4, k5, k6, k7, k8, _⟩ := SS9.out.cells; exact ⟨k2, k3, k4, k5, k6, k7, k8⟩))
              (first
                | (go_at_call 18; refine (zzStats_any _ _ _ _ _ _ _ _ _ _ _ _ _ _ C7.out.drew).mono ?_; rintro er w9 ⟨rfl, hb9⟩; have SS9 := hide (S7'.out.below ((Below.refl _ _).drew.trans hb9) zs7))
                | (go_at_call 17; refine (statsAre_any r t m u p l e 0 l' _ (by have := hL.out; omega)).mono ?_; rintro er w8 ⟨rfl, hb8⟩; have SS8 := hide (SS9.out.below hb8 SS9.out.lt)))
            go_wp2
            go_ret
            have hb9' : Below w.heap.size w7 w9 := (Below.refl _ _).drew.trans (hb9.mono (by simp; have := B7.out.size; omega))
            exact ⟨rfl, (B7.out.trans hb9').trans (hb8.mono (by have := B7.out.size; have := hb9'.size; omega))⟩
          · have hL : Hid (l' = (l + lostF pq s) % 18446744073709551616) := by have := HL.out; rw [HXQ.out rfl] at this; first | exact this | (simp at this; exact this)
            go_wp2_with fail
            refine OL.out.mono ?_
            rintro er w8 ⟨rfl, hw8⟩
            have hw9 := hw8.symm
            clear hw8
            subst hw9
            go_wp2_with fail
            refine (lostModel_any pq s _ pq0 pq1 s0 s1).mono ?_
            rintro er w8 ⟨rfl, hw8⟩
            have hw9 := hw8.symm
            clear hw8
            subst hw9
            go_wp2_with fail
            go_region_held3 (fun w' => w'.cell? ⟨w.heap.size, 2, none⟩ = some (.int .u64 r) ∧ w'.cell? ⟨w.heap.size, 3, none⟩ = some (.int .u64 t) ∧ w'.cell? ⟨w.heap.size, 4, none⟩ = some (.int .u64 m) ∧ w'.cell? ⟨w.heap.size, 5, none⟩ = some (.int .u64 u) ∧ w'.cell? ⟨w.heap.size, 6, none⟩ = some (.int .u64 p) ∧ w'.cell? ⟨w.heap.size, 7, none⟩ = some (.int .u64 l) ∧ w'.cell? ⟨w.heap.size, 8, none⟩ = some (.int .u64 e))
              (first | (simp [go_sem, d2, d3, d4, d5, d6, d7, d8]; done) | (obtain ⟨_, _, k2, k3, k4, k5, k6, k7, k8, _⟩ := SS8.out.cells; exact ⟨k2, k3, k4, k5, k6, k7, k8⟩) | (obtain ⟨_, _, k2, k3, k4, k5, k6, k7, k8, _⟩ := SS9.out.cells; exact ⟨k2, k3, k4, k5, k6, k7, k8⟩))
              (first
                | (go_at_call 18; refine (zzStats_any _ _ _ _ _ _ _ _ _ _ _ _ _ _ C7.out.drew).mono ?_; rintro er w9 ⟨rfl, hb9⟩; have SS9 := hide (S7'.out.below ((Below.refl _ _).drew.trans hb9) zs7))
                | (go_at_call 17; refine (statsAre_any r t m u p l e (lostF pq s) l' _ (hL.out)).mono ?_; rintro er w8 ⟨rfl, hb8⟩; have SS8 := hide (SS9.out.below hb8 SS9.out.lt)))
            go_wp2
            go_ret
            have hb9' : Below w.heap.size w7 w9 := (Below.refl _ _).drew.trans (hb9.mono (by simp; have := B7.out.size; omega))
            exact ⟨rfl, (B7.out.trans hb9').trans (hb8.mono (by have := B7.out.size; have := hb9'.size; omega))⟩

end Go.Proofs.Qxb6605559aMods
