import Derived.Test.Qxb6605559aModsU
namespace Go.Proofs.Qxb6605559aMods
open Go.RowKit Go.Maps
set_option linter.unusedVariables false

set_option maxHeartbeats 4000000 in
set_option maxRecDepth 20000 in
theorem rem_main (a : Option Addr) (len cap : Nat) (nm : Bool) (r t m u p l e cn ch cs : Int) (hc : Bool) (en eh eq : Nat → Int) (n h s : Int) (w : World) (hlen : len ≤ 65536) (hsrc : SrcE w a len cap en eh eq)
    (hwf : ∀ i, i < len → (Lit.int .u32 (en i)).wf = true ∧ (Lit.int .u8 (eh i)).wf = true ∧ (Lit.int .u32 (eq i)).wf = true)
    (hn : (Lit.int .u32 n).wf = true) (hh : (Lit.int .u8 h).wf = true) (hs : (Lit.int .u32 s).wf = true) (l0 : 0 ≤ l) (l1 : l < 18446744073709551616) :
    Calls Trym.prog 5 #[stV a len cap nm r t m u p l e cn ch cs hc, .int .u32 n, .int .u8 h, .int .u32 s] w fun er w' => er = .returned (.bool true) ∧ Below w.heap.size w w' := by
  have hl1 : ¬ (65536 : Int) < len := by omega
  obtain ⟨n0, n1⟩ := u32_bd hn
  obtain ⟨h0, h1⟩ := u8_bd hh
  have S0 := hide (stB_made w (.slice a len cap) nm r t m u p l e cn ch cs hc)
  have HS := hide hsrc
  have HW := hide hwf
  clear hsrc hwf
  go_enter Trym.func5, Trym.ntmps5
  go_wp2_with fail
  refine (bytesRem_yes a len cap nm r t m u p l e cn ch cs hc n h s _ (by omega)).mono ?_
  rintro er w1 ⟨rfl, hb1⟩
  have S1 := hide (S0.out.below hb1 (by simp))
  have B1 := hide (((Below.refl w.heap.size w).alloc (Nat.le_refl _) (.cells #[.slice a len cap, .bool nm, .int .u64 r, .int .u64 t, .int .u64 m, .int .u64 u, .int .u64 p, .int .u64 l, .int .u64 e, .int .u32 cn, .int .u8 ch, .int .u32 cs, .bool hc] 28)).trans (hb1.mono (by simp)))
  have c0 := S1.out.cells.1
  have z1 := S1.out.lt
  clear hb1 S0
  go_wp2_with fail
  refine (copyEntries_any a len cap en eh eq _ hlen (HS.out.below B1.out)).mono ?_
  rintro er w2 ⟨a', c', rfl, hrow, hb2⟩
  have S2 := hide (S1.out.below hb2 z1)
  have B2 := hide (B1.out.trans (hb2.mono (by omega)))
  have k2 := S2.out.set0 (.slice a' len c')
  have kk : Kp w2 (w2.setCell ⟨w.heap.size, 0, none⟩ (.slice a' len c')) (fun i => i = w.heap.size) := (Kp.refl w2 (fun i => i = w.heap.size)).setCell (fun _ => rfl) _
  have RR := hide (kk.rowE hrow (by omega))
  have B3 := hide (B2.out.setCell (p := ⟨w.heap.size, 0, none⟩) (Nat.le_refl _) (.slice a' len c'))
  have e0 := S2.out.cells.1
  have fz := S2.out.frozen
  obtain ⟨_, d1, d2, d3, d4, d5, d6, d7, d8, d9, d10, d11, d12⟩ := k2.cells
  have S3 := hide k2
  have z2 := S2.out.lt
  have z2' := hb2.size
  clear hb2 hrow kk k2 c0 S1 S2 B1 B2
  go_wp2_with fail
  refine (build_any a' w1.heap.size len c' en eh eq nm r t m u p l e cn ch cs hc _ hlen RR.out HW.out).mono ?_
  rintro er w3 ⟨bc, bo, a2, k, c2, rfl, hk, hrow2, mv, D, DM, hctr, hl, hM, I, zb, zo, hmv, hbel⟩
  have zz : (w2.setCell ⟨w.heap.size, 0, none⟩ (.slice a' len c')).heap.size = w2.heap.size := by simp
  rw [zz] at zb hmv hbel
  have S4 := S3.out.below hbel z2
  have R4 : RowE w3 a2 k en eh eq w1.heap.size := by
    rcases hrow2 with x | ⟨x, y⟩
    · exact Or.inl x
    · exact Or.inr ⟨x, (Kp.ofBelow hbel).row y (by have := y.lt; rw [zz] at this; omega)⟩
  have hRB : k = 0 ∨ w1.heap.size < w2.heap.size := by
    rcases hrow2 with x | ⟨x, y⟩
    · exact Or.inl x
    · exact Or.inr (by have := y.lt; rw [zz] at this; omega)
  have HRB := hide hRB
  clear hRB
  have B4 := B3.out.trans (hbel.mono (by omega))
  have hsD : Maps.size D < 4294967296 := by have := I.le; omega
  obtain ⟨z, hz⟩ : ∃ z : Int, z = Maps.size DM := ⟨_, rfl⟩
  have hzb : 0 ≤ z ∧ z ≤ 65536 := by have := I.le; have := I.sz; omega
  obtain ⟨hz0, hz1⟩ := hzb
  have hlook := ownM_look hM hn hh
  have hlenM := fun ty => ownM_len hM ty
  rw [← hz] at hlenM
  have F := hide (And.intro S4 (And.intro R4 (And.intro B4 (And.intro hctr (And.intro hl (And.intro hM I))))))
  have zmv := hide hmv
  have HZ := hide hz
  have zc := hctr.lt
  have zm := hM.lt
  generalize numAt DM (k64 n h) = pq at hlook
  clear hrow2 hbel S4 R4 B4 hctr hl hM I hmv hz S3 RR B3 d1 d2 d3 d4 d5 d6 d7 d8 d9 d10 d11 d12 e0 fz zz
  go_wp2_with fail
  refine (key_any n h _ n0 n1 h0 h1).mono ?_
  rintro er w4 ⟨rfl, hw4⟩
  have hw5 := hw4.symm
  clear hw4
  subst hw5
  cases hhad : Maps.has DM (k64 n h)
  · rw [hhad] at hlook
    by_cases hfull : 65536 ≤ z
    · have HH := hide hhad
      clear hhad
      go_wp2_with fail
      obtain ⟨S4, R4, B4, hctr, hl, hM, I⟩ := F.out
      refine (zzRemember_any bc r t m u p l e mv cn ch cs hc D n h s _ hctr hl hsD hn hh hs).mono ?_
      rintro er w4 ⟨rfl, bl, D', hrem, hC4, hO4, hcase, hK4⟩
      obtain ⟨fn, fh, RL⟩ := remLaw I (fun i hi => ⟨(HW.out i (by omega)).1, (HW.out i (by omega)).2.1⟩) hn hh hrem
      have hM4 := hK4.ownM hM (by rintro (x | x); omega; have := zmv.out _ x; omega)
      have S5 := S4.kp hK4 (by rintro (x | x); omega; have := zmv.out _ x; omega)
      have R5 : RowE w4 a2 k en eh eq w1.heap.size := by
        rcases HRB.out with hx | hx
        · exact Or.inl hx
        · exact hK4.rowE R4 (by rintro (x | x); omega; have := zmv.out _ x; omega)
      have B5 := Kp.toBelow B4 hK4 (by have := B4.size; omega) (fun i hi => by rintro (x | x); omega; have := zmv.out _ x; omega)
      have hlen4 := fun ty => ownM_len hM4 ty
      rw [← HZ.out] at hlen4
      have hcall : Calls Trym.prog 14 #[.pointer (some ⟨bc, 0, none⟩), .int .u32 n, .int .u8 h] w4 fun er w' => er = .returned (.tuple #[.int .u32 s, .bool true]) ∧ w' = w4 := by
        refine (zzLast_any _ _ _ _ n h _ hC4.last (Lst.last (Or.inr ⟨bl, rfl, hO4⟩)) hn hh).mono ?_
        rintro er w' ⟨rfl, hw⟩
        exact ⟨by rw [RL.got.1, RL.got.2], hw⟩
      have hcall2 : Calls Trym.prog 13 #[.pointer (some ⟨bc, 0, none⟩)] w4 fun er w' => er = .returned (.int .i64 (z)) ∧ w' = w4 := by
        refine (zzLastLen_any _ _ _ _ _ hC4.last (Lst.last (Or.inr ⟨bl, rfl, hO4⟩))).mono ?_
        rintro er w' ⟨rfl, hw⟩
        have hsz := RL.size
        rw [if_pos (Or.inr (by have := HZ.out; omega))] at hsz
        exact ⟨ret_int (by rw [HZ.out]; omega), hw⟩
      have hcall3 : Calls Trym.prog 15 #[.pointer (some ⟨bc, 0, none⟩), .slice a2 k c2, .map (some bo), .int .u64 (n * 256 + h), .bool true] w4 fun er w' => er = .returned (.tuple #[.int .i64 1, .bool true]) ∧ Below w4.heap.size w4 w' := by
        refine (countGone_any bc bo w1.heap.size k c2 a2 en eh eq r t m u p l e _ cn ch cs hc D' DM true (n * 256 + h) fn fh _ (by omega) hC4 (Or.inr ⟨bl, rfl, hO4⟩) hM4 R5 (fun i hi => ⟨(HW.out i (by omega)).1, (HW.out i (by omega)).2.1⟩) RL.each).mono ?_
        rintro er w' ⟨g, rfl, g1, g0, hb⟩
        rw [g1 (RL.yes HH.out (by have := HZ.out; omega))]
        rw [show ((1 : Nat) : Int) = 1 from rfl]
        exact ⟨rfl, hb⟩
      have H1 := hide hcall
      have H2 := hide hcall2
      have H3 := hide hcall3
      have HC := hide hC4
      have SS := hide S5
      have BB := hide B5
      have zc4 := hC4.lt
      have zs4 := S5.lt
      clear S4 R4 B4 hctr hl hM I F hrem hC4 hO4 hcase hK4 RL hM4 S5 R5 B5 hcall hcall2 hcall3
      go_wp2_with fail
      refine (lastIsNil_any bc bl r t m u p l e cn ch cs hc _ HC.out).mono ?_
      rintro er w5 ⟨rfl, hw4⟩
      have hw5 := hw4.symm
      clear hw4
      subst hw5
      go_wp2_with fail
      refine H1.out.mono ?_
      rintro er w5 ⟨rfl, hw4⟩
      have hw5 := hw4.symm
      clear hw4
      subst hw5
      go_wp2_with fail
      refine H2.out.mono ?_
      rintro er w5 ⟨rfl, hw4⟩
      have hw5 := hw4.symm
      clear hw4
      subst hw5
      go_wp2_with fail
      refine H3.out.mono ?_
      rintro er w5 ⟨rfl, hb5⟩
      have C5 := hide (HC.out.below hb5 zc4)
      have S5 := hide (SS.out.below hb5 zs4)
      have B5 := hide (BB.out.trans (hb5.mono (by have := BB.out.size; omega)))
      have zc5 := C5.out.lt
      have zs5 := S5.out.lt
      clear hb5 HC SS BB H1 H2 H3 hlen4
      go_wp2_with fail
      refine (zzCurrent_any _ _ _ _ _ _ _ _ _ _ _ _ _ _ C5.out).mono ?_
      rintro er w6 ⟨rfl, hb6⟩
      have C6 := hide (C5.out.below hb6 zc5)
      have S6 := S5.out.below hb6 zs5
      have HS6 := hide S6
      have B6 := hide (B5.out.trans (hb6.mono (by have := B5.out.size; omega)))
      have zc6 := C6.out.lt
      have zs6 := S6.lt
      obtain ⟨_, _, d2, d3, d4, d5, d6, d7, d8, d9, d10, d11, d12⟩ := S6.cells
      clear hb6 C5 S5 B5 S6
      go_wp2_with fail
      go_region_with (first
        | (go_at_call 18; refine (zzStats_any _ _ _ _ _ _ _ _ _ _ _ _ _ _ C6.out.drew).mono ?_; rintro er w7 ⟨rfl, hb7⟩; obtain ⟨_, _, f2, f3, f4, f5, f6, f7, f8, _⟩ := (HS6.out.below ((Below.refl _ _).drew.trans hb7) zs6).cells)
        | (go_at_call 17; refine (statsAre_any r t m u p l e 0 l _ (by omega)).mono ?_; rintro er w8 ⟨rfl, hb8⟩))
      all_goals
        go_wp2
        go_ret
        have hb7' : Below w.heap.size w6 w7 := (Below.refl _ _).drew.trans (hb7.mono (by simp; have := B6.out.size; omega))
        exact ⟨rfl, (B6.out.trans hb7').trans (hb8.mono (by have := B6.out.size; have := hb7'.size; omega))⟩
    · have hroom : z < 65536 := by omega
      have hfb : decide (65536 ≤ z) = false := by simp; omega
      have HH := hide hhad
      clear hhad hfull
      go_wp2_with fail
      obtain ⟨S4, R4, B4, hctr, hl, hM, I⟩ := F.out
      refine (zzRemember_any bc r t m u p l e mv cn ch cs hc D n h s _ hctr hl hsD hn hh hs).mono ?_
      rintro er w4 ⟨rfl, bl, D', hrem, hC4, hO4, hcase, hK4⟩
      obtain ⟨fn, fh, RL⟩ := remLaw I (fun i hi => ⟨(HW.out i (by omega)).1, (HW.out i (by omega)).2.1⟩) hn hh hrem
      have hM4 := hK4.ownM hM (by rintro (x | x); omega; have := zmv.out _ x; omega)
      have S5 := S4.kp hK4 (by rintro (x | x); omega; have := zmv.out _ x; omega)
      have R5 : RowE w4 a2 k en eh eq w1.heap.size := by
        rcases HRB.out with hx | hx
        · exact Or.inl hx
        · exact hK4.rowE R4 (by rintro (x | x); omega; have := zmv.out _ x; omega)
      have B5 := Kp.toBelow B4 hK4 (by have := B4.size; omega) (fun i hi => by rintro (x | x); omega; have := zmv.out _ x; omega)
      have hlen4 := fun ty => ownM_len hM4 ty
      rw [← HZ.out] at hlen4
      have hcall : Calls Trym.prog 14 #[.pointer (some ⟨bc, 0, none⟩), .int .u32 n, .int .u8 h] w4 fun er w' => er = .returned (.tuple #[.int .u32 s, .bool true]) ∧ w' = w4 := by
        refine (zzLast_any _ _ _ _ n h _ hC4.last (Lst.last (Or.inr ⟨bl, rfl, hO4⟩)) hn hh).mono ?_
        rintro er w' ⟨rfl, hw⟩
        exact ⟨by rw [RL.got.1, RL.got.2], hw⟩
      have hcall2 : Calls Trym.prog 13 #[.pointer (some ⟨bc, 0, none⟩)] w4 fun er w' => er = .returned (.int .i64 (z + 1)) ∧ w' = w4 := by
        refine (zzLastLen_any _ _ _ _ _ hC4.last (Lst.last (Or.inr ⟨bl, rfl, hO4⟩))).mono ?_
        rintro er w' ⟨rfl, hw⟩
        have hsz := RL.size
        rw [if_neg (by rintro (x | x); rw [HH.out] at x; cases x; have := HZ.out; omega)] at hsz
        exact ⟨ret_int (by rw [HZ.out]; omega), hw⟩
      have hcall3 : Calls Trym.prog 15 #[.pointer (some ⟨bc, 0, none⟩), .slice a2 k c2, .map (some bo), .int .u64 (n * 256 + h), .bool true] w4 fun er w' => er = .returned (.tuple #[.int .i64 0, .bool true]) ∧ Below w4.heap.size w4 w' := by
        refine (countGone_any bc bo w1.heap.size k c2 a2 en eh eq r t m u p l e _ cn ch cs hc D' DM true (n * 256 + h) fn fh _ (by omega) hC4 (Or.inr ⟨bl, rfl, hO4⟩) hM4 R5 (fun i hi => ⟨(HW.out i (by omega)).1, (HW.out i (by omega)).2.1⟩) RL.each).mono ?_
        rintro er w' ⟨g, rfl, g1, g0, hb⟩
        rw [g0 (RL.no (fun x => by have := HZ.out; omega))]
        rw [show ((0 : Nat) : Int) = 0 from rfl]
        exact ⟨rfl, hb⟩
      have H1 := hide hcall
      have H2 := hide hcall2
      have H3 := hide hcall3
      have HC := hide hC4
      have SS := hide S5
      have BB := hide B5
      have zc4 := hC4.lt
      have zs4 := S5.lt
      clear S4 R4 B4 hctr hl hM I F hrem hC4 hO4 hcase hK4 RL hM4 S5 R5 B5 hcall hcall2 hcall3
      go_wp2_with fail
      refine (lastIsNil_any bc bl r t m u p l e cn ch cs hc _ HC.out).mono ?_
      rintro er w5 ⟨rfl, hw4⟩
      have hw5 := hw4.symm
      clear hw4
      subst hw5
      go_wp2_with fail
      refine H1.out.mono ?_
      rintro er w5 ⟨rfl, hw4⟩
      have hw5 := hw4.symm
      clear hw4
      subst hw5
      go_wp2_with fail
      refine H2.out.mono ?_
      rintro er w5 ⟨rfl, hw4⟩
      have hw5 := hw4.symm
      clear hw4
      subst hw5
      go_wp2_with fail
      refine H3.out.mono ?_
      rintro er w5 ⟨rfl, hb5⟩
      have C5 := hide (HC.out.below hb5 zc4)
      have S5 := hide (SS.out.below hb5 zs4)
      have B5 := hide (BB.out.trans (hb5.mono (by have := BB.out.size; omega)))
      have zc5 := C5.out.lt
      have zs5 := S5.out.lt
      clear hb5 HC SS BB H1 H2 H3 hlen4
      go_wp2_with fail
      refine (zzCurrent_any _ _ _ _ _ _ _ _ _ _ _ _ _ _ C5.out).mono ?_
      rintro er w6 ⟨rfl, hb6⟩
      have C6 := hide (C5.out.below hb6 zc5)
      have S6 := S5.out.below hb6 zs5
      have HS6 := hide S6
      have B6 := hide (B5.out.trans (hb6.mono (by have := B5.out.size; omega)))
      have zc6 := C6.out.lt
      have zs6 := S6.lt
      obtain ⟨_, _, d2, d3, d4, d5, d6, d7, d8, d9, d10, d11, d12⟩ := S6.cells
      clear hb6 C5 S5 B5 S6
      go_wp2_with fail
      go_region_with (first
        | (go_at_call 18; refine (zzStats_any _ _ _ _ _ _ _ _ _ _ _ _ _ _ C6.out.drew).mono ?_; rintro er w7 ⟨rfl, hb7⟩; obtain ⟨_, _, f2, f3, f4, f5, f6, f7, f8, _⟩ := (HS6.out.below ((Below.refl _ _).drew.trans hb7) zs6).cells)
        | (go_at_call 17; refine (statsAre_any r t m u p l e 0 l _ (by omega)).mono ?_; rintro er w8 ⟨rfl, hb8⟩))
      all_goals
        go_wp2
        go_ret
        have hb7' : Below w.heap.size w6 w7 := (Below.refl _ _).drew.trans (hb7.mono (by simp; have := B6.out.size; omega))
        exact ⟨rfl, (B6.out.trans hb7').trans (hb8.mono (by have := B6.out.size; have := hb7'.size; omega))⟩
  · rw [hhad] at hlook
    have HH := hide hhad
    clear hhad
    go_wp2_with fail
    obtain ⟨S4, R4, B4, hctr, hl, hM, I⟩ := F.out
    refine (zzRemember_any bc r t m u p l e mv cn ch cs hc D n h s _ hctr hl hsD hn hh hs).mono ?_
    rintro er w4 ⟨rfl, bl, D', hrem, hC4, hO4, hcase, hK4⟩
    obtain ⟨fn, fh, RL⟩ := remLaw I (fun i hi => ⟨(HW.out i (by omega)).1, (HW.out i (by omega)).2.1⟩) hn hh hrem
    have hM4 := hK4.ownM hM (by rintro (x | x); omega; have := zmv.out _ x; omega)
    have S5 := S4.kp hK4 (by rintro (x | x); omega; have := zmv.out _ x; omega)
    have R5 : RowE w4 a2 k en eh eq w1.heap.size := by
      rcases HRB.out with hx | hx
      · exact Or.inl hx
      · exact hK4.rowE R4 (by rintro (x | x); omega; have := zmv.out _ x; omega)
    have B5 := Kp.toBelow B4 hK4 (by have := B4.size; omega) (fun i hi => by rintro (x | x); omega; have := zmv.out _ x; omega)
    have hlen4 := fun ty => ownM_len hM4 ty
    rw [← HZ.out] at hlen4
    have hcall : Calls Trym.prog 14 #[.pointer (some ⟨bc, 0, none⟩), .int .u32 n, .int .u8 h] w4 fun er w' => er = .returned (.tuple #[.int .u32 s, .bool true]) ∧ w' = w4 := by
      refine (zzLast_any _ _ _ _ n h _ hC4.last (Lst.last (Or.inr ⟨bl, rfl, hO4⟩)) hn hh).mono ?_
      rintro er w' ⟨rfl, hw⟩
      exact ⟨by rw [RL.got.1, RL.got.2], hw⟩
    have hcall2 : Calls Trym.prog 13 #[.pointer (some ⟨bc, 0, none⟩)] w4 fun er w' => er = .returned (.int .i64 (z)) ∧ w' = w4 := by
      refine (zzLastLen_any _ _ _ _ _ hC4.last (Lst.last (Or.inr ⟨bl, rfl, hO4⟩))).mono ?_
      rintro er w' ⟨rfl, hw⟩
      have hsz := RL.size
      rw [if_pos (Or.inl HH.out)] at hsz
      exact ⟨ret_int (by rw [HZ.out]; omega), hw⟩
    have hcall3 : Calls Trym.prog 15 #[.pointer (some ⟨bc, 0, none⟩), .slice a2 k c2, .map (some bo), .int .u64 (n * 256 + h), .bool true] w4 fun er w' => er = .returned (.tuple #[.int .i64 0, .bool true]) ∧ Below w4.heap.size w4 w' := by
      refine (countGone_any bc bo w1.heap.size k c2 a2 en eh eq r t m u p l e _ cn ch cs hc D' DM true (n * 256 + h) fn fh _ (by omega) hC4 (Or.inr ⟨bl, rfl, hO4⟩) hM4 R5 (fun i hi => ⟨(HW.out i (by omega)).1, (HW.out i (by omega)).2.1⟩) RL.each).mono ?_
      rintro er w' ⟨g, rfl, g1, g0, hb⟩
      rw [g0 (RL.no (fun x => by rw [HH.out] at x; cases x.1))]
      rw [show ((0 : Nat) : Int) = 0 from rfl]
      exact ⟨rfl, hb⟩
    have H1 := hide hcall
    have H2 := hide hcall2
    have H3 := hide hcall3
    have HC := hide hC4
    have SS := hide S5
    have BB := hide B5
    have zc4 := hC4.lt
    have zs4 := S5.lt
    clear S4 R4 B4 hctr hl hM I F hrem hC4 hO4 hcase hK4 RL hM4 S5 R5 B5 hcall hcall2 hcall3
    go_wp2_with fail
    refine (lastIsNil_any bc bl r t m u p l e cn ch cs hc _ HC.out).mono ?_
    rintro er w5 ⟨rfl, hw4⟩
    have hw5 := hw4.symm
    clear hw4
    subst hw5
    go_wp2_with fail
    refine H1.out.mono ?_
    rintro er w5 ⟨rfl, hw4⟩
    have hw5 := hw4.symm
    clear hw4
    subst hw5
    go_wp2_with fail
    refine H2.out.mono ?_
    rintro er w5 ⟨rfl, hw4⟩
    have hw5 := hw4.symm
    clear hw4
    subst hw5
    go_wp2_with fail
    refine H3.out.mono ?_
    rintro er w5 ⟨rfl, hb5⟩
    have C5 := hide (HC.out.below hb5 zc4)
    have S5 := hide (SS.out.below hb5 zs4)
    have B5 := hide (BB.out.trans (hb5.mono (by have := BB.out.size; omega)))
    have zc5 := C5.out.lt
    have zs5 := S5.out.lt
    clear hb5 HC SS BB H1 H2 H3 hlen4
    go_wp2_with fail
    refine (zzCurrent_any _ _ _ _ _ _ _ _ _ _ _ _ _ _ C5.out).mono ?_
    rintro er w6 ⟨rfl, hb6⟩
    have C6 := hide (C5.out.below hb6 zc5)
    have S6 := S5.out.below hb6 zs5
    have HS6 := hide S6
    have B6 := hide (B5.out.trans (hb6.mono (by have := B5.out.size; omega)))
    have zc6 := C6.out.lt
    have zs6 := S6.lt
    obtain ⟨_, _, d2, d3, d4, d5, d6, d7, d8, d9, d10, d11, d12⟩ := S6.cells
    clear hb6 C5 S5 B5 S6
    go_wp2_with fail
    go_region_with (first
      | (go_at_call 18; refine (zzStats_any _ _ _ _ _ _ _ _ _ _ _ _ _ _ C6.out.drew).mono ?_; rintro er w7 ⟨rfl, hb7⟩; obtain ⟨_, _, f2, f3, f4, f5, f6, f7, f8, _⟩ := (HS6.out.below ((Below.refl _ _).drew.trans hb7) zs6).cells)
      | (go_at_call 17; refine (statsAre_any r t m u p l e 0 l _ (by omega)).mono ?_; rintro er w8 ⟨rfl, hb8⟩))
    all_goals
      go_wp2
      go_ret
      have hb7' : Below w.heap.size w6 w7 := (Below.refl _ _).drew.trans (hb7.mono (by simp; have := B6.out.size; omega))
      exact ⟨rfl, (B6.out.trans hb7').trans (hb8.mono (by have := B6.out.size; have := hb7'.size; omega))⟩

end Go.Proofs.Qxb6605559aMods
