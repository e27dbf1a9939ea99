import Derived.Test.Qxb6601415aModsD
namespace Go.Proofs.Qxb6601415aMods
open Go.RowKit
set_option linter.unusedVariables false

theorem Buf.app {w : World} {g K cap : Nat} {xs : List Int} {x : Int} (h : w.ownsRow 0 5 1 (.slice (some ⟨g, 0, none⟩) (K + 1) cap) (K + 1) (xs.map (Value.int .u8) ++ [.int .u8 x])) : Buf w g (K + 1) cap (xs ++ [x]) := by
  unfold Buf
  rw [List.map_append]
  exact h
theorem Buf.alloc {w : World} {g k cap : Nat} {xs : List Int} (h : Buf w g k cap xs) (o : Obj) : Buf (w.alloc o) g k cap xs := World.ownsRow.alloc h o
theorem Buf.grown {w w' : World} {g k cap r : Nat} {xs : List Int} (h : Buf w g k cap xs) (hg : w.grownBy w' (some r)) (hne : g ≠ r) : Buf w' g k cap xs := World.ownsRow.kept h hg (Or.inr (by simpa [Value.ownBlock] using hne))
theorem row_alloc {w : World} {B n : Nat} {dz : Nat → Int} (h : Row w B n dz) (o : Obj) : Row (w.alloc o) B n dz := h.of_block (Below.heap_alloc _ _ _ h.lt)
theorem row_grown {w w' : World} {B n r : Nat} {dz : Nat → Int} (h : Row w B n dz) (hg : w.grownBy w' (some r)) (hne : B ≠ r) : Row w' B n dz := h.of_block (hg.block B h.lt (by simpa using hne))

set_option maxHeartbeats 4000000 in
set_option maxRecDepth 20000 in
theorem law_some (a : Option Addr) (len cap : Nat) (dz : Nat → Int) (w : World) (hlen : len ≤ 1048576)
    (hcl : Calls Trym.prog 8 #[.slice a len cap] w fun er w' => er = .returned (.slice (some ⟨w.heap.size, 0, none⟩) len len) ∧ Row w' w.heap.size len dz ∧ Below w.heap.size w w') :
    Calls Trym.prog 3 #[.slice a len cap] w fun e w' => e = .returned (.bool true) ∧ Below w.heap.size w w' := by
  obtain ⟨i0, hi, hz0, hz1, hz2⟩ := info_parts info5
  have HCL := hide hcl
  clear hcl
  have hl1 : (len : Int) ≤ 1048576 := by omega
  go_enter Trym.func3, Trym.ntmps3
  go_wp2_with fail
  refine (zzB_yes _ _ _ _ hlen).mono ?_
  rintro er w1 ⟨rfl, hw1⟩
  have hw2 := hw1.symm
  clear hw1
  subst hw2
  go_wp2_with fail
  refine HCL.out.mono ?_
  rintro er w1 ⟨rfl, hrow, hb1⟩
  clear HCL
  have R1 := hide hrow
  have B1 := hide hb1
  have z1 := hrow.lt
  clear hrow hb1
  go_wp2_with (at_make; refine wpList_make_own _ rfl _ _ 22 rfl 0 5 i0 (.int .u8 0) 1 Trym.underlying22 hi hz0 hz1 _ _ _ len rfl rfl (by omega) ?b2 ?b3 (Nat.zero_le _) ?_)
  case b2 => rw [hz2]; omega
  case b3 => unfold maxLen; omega
  intro w2 hown2 hgrow2
  have H0 : Hid (Buf w2 w1.heap.size 0 len (keep dz len 0) ∧ Row w2 w.heap.size len dz ∧ Below w.heap.size w w2) := ⟨hown2, R1.out.of_block (hgrow2.block _ z1 (by simp)), B1.out.grown hgrow2 B1.out.size (fun k h => by cases h)⟩
  clear hown2 hgrow2 R1 B1
  go_wp2
  go_loopw [3, 4, 5] (fun want lines i wr => ∃ k : Nat, k ≤ len ∧ i = .int .i64 k ∧ lines = .int .i64 (lns dz k) ∧ want = .slice (some ⟨w1.heap.size, 0, none⟩) (keep dz len k).length len ∧ Buf wr w1.heap.size (keep dz len k).length len (keep dz len k) ∧ Row wr w.heap.size len dz ∧ Below w.heap.size w wr) (fun _ _ i _ => len - (intOf i).toNat)
  case atStart => exact ⟨0, Nat.zero_le _, rfl, rfl, rfl, H0.out⟩
  case round =>
    obtain ⟨k, hk, rfl, rfl, rfl, hbuf, hrow, hbel⟩ := hrel
    clear H0
    have hle := lns_le dz k
    have hkl := keep_len dz len k
    have LL := hide (show lns dz (k + 1) = lns dz k + (if dz k = 10 then 1 else 0) from rfl)
    have KK := hide (show keep dz len (k + 1) = keep dz len k ++ (if isCR dz len k then [] else [dz k]) from rfl)
    generalize hlk : lns dz k = L at hle LL
    generalize hkk : keep dz len k = X at hkl KK hbuf
    by_cases hlt : k < len
    · have c0 : wr.cell? ⟨w.heap.size, k, none⟩ = some (.int .u8 (dz k)) := hrow.cell hlt
      have c1 : k + 1 < len → wr.cell? ⟨w.heap.size, k + 1, none⟩ = some (.int .u8 (dz (k + 1))) := fun h => hrow.cell h
      have BF := hide hbuf
      have RB := hide (And.intro hrow hbel)
      clear hrow hbel hbuf hlk hkk
      by_cases h10 : dz k = 10
      · have hcr : ¬ isCR dz len k := by rintro ⟨d1, _⟩; rw [h10] at d1; cases d1
        rw [h10] at c0
        go_wp2_with (at_builtin; refine wpList_append_fits _ rfl (.tmp 58) (.tmp 63) 22 rfl 0 5 i0 1 Trym.underlying22 hi hz1 w1.heap.size X.length len _ rfl (BF.out.alloc _) ⟨wr.heap.size, 0, none⟩ 1 1 [.int .u8 10] rfl rfl (by intro t u ht; match t, ht with | 0, ht => simp at ht; subst ht; simp [Addr.add]) (by intro u hu; simp at hu; subst hu; rfl) (by omega) ?_; intro w3 hown3 hgrow3)
        go_roundw
        case rel =>
          refine ⟨k + 1, by omega, by go_num, ?_, ?_, ?_, row_grown (row_alloc RB.out.1 _) hgrow3 (by omega), (RB.out.2.alloc RB.out.2.size _).grown hgrow3 (by have := RB.out.2.size; simp; omega) (fun k hk => by cases hk; omega)⟩
          · rw [LL.out, if_pos h10]; rfl
          · rw [KK.out, if_neg hcr]; simp
          · rw [KK.out, if_neg hcr]
            have := Buf.app hown3
            rw [h10]
            simpa using this
        case measure => simp [intOf]; omega
      · have f10 : (dz k == 10) = false := by rw [beq_eq_false_iff_ne]; exact h10
        by_cases h13 : dz k = 13
        · rw [h13] at c0
          by_cases hl : k + 1 < len
          · have d1 := c1 hl
            clear c1
            by_cases hn : dz (k + 1) = 10
            · have hcr : isCR dz len k := ⟨h13, hl, hn⟩
              rw [hn] at d1
              clear f10
              go_wp2
              go_roundw
              case rel =>
                refine ⟨k + 1, by omega, by go_num, ?_, ?_, ?_, RB.out.1, RB.out.2⟩
                · rw [LL.out, if_neg h10]; rfl
                · rw [KK.out, if_pos hcr, List.append_nil]
                · rw [KK.out, if_pos hcr, List.append_nil]; exact BF.out
              case measure => simp [intOf]; omega
            · have fn : (dz (k + 1) == 10) = false := by rw [beq_eq_false_iff_ne]; exact hn
              have hcr : ¬ isCR dz len k := by rintro ⟨_, _, d3⟩; exact hn d3
              clear f10
              go_wp2_with (at_builtin; refine wpList_append_fits _ rfl (.tmp 58) (.tmp 63) 22 rfl 0 5 i0 1 Trym.underlying22 hi hz1 w1.heap.size X.length len _ rfl (BF.out.alloc _) ⟨wr.heap.size, 0, none⟩ 1 1 [.int .u8 13] rfl rfl (by intro t u ht; match t, ht with | 0, ht => simp at ht; subst ht; simp [Addr.add]) (by intro u hu; simp at hu; subst hu; rfl) (by omega) ?_; intro w3 hown3 hgrow3)
              go_roundw
              case rel =>
                refine ⟨k + 1, by omega, by go_num, ?_, ?_, ?_, row_grown (row_alloc RB.out.1 _) hgrow3 (by omega), (RB.out.2.alloc RB.out.2.size _).grown hgrow3 (by have := RB.out.2.size; simp; omega) (fun k hk => by cases hk; omega)⟩
                · rw [LL.out, if_neg h10]; rfl
                · rw [KK.out, if_neg hcr]; simp
                · rw [KK.out, if_neg hcr]
                  have := Buf.app hown3
                  rw [h13]
                  simpa using this
              case measure => simp [intOf]; omega
          · have hcr : ¬ isCR dz len k := by rintro ⟨_, d2, _⟩; exact hl d2
            clear f10 c1
            have he : k + 1 = len := by omega
            go_wp2_with (at_builtin; refine wpList_append_fits _ rfl (.tmp 58) (.tmp 63) 22 rfl 0 5 i0 1 Trym.underlying22 hi hz1 w1.heap.size X.length len _ rfl (BF.out.alloc _) ⟨wr.heap.size, 0, none⟩ 1 1 [.int .u8 13] rfl rfl (by intro t u ht; match t, ht with | 0, ht => simp at ht; subst ht; simp [Addr.add]) (by intro u hu; simp at hu; subst hu; rfl) (by omega) ?_; intro w3 hown3 hgrow3)
            go_roundw
            case rel =>
              refine ⟨k + 1, by omega, by go_num, ?_, ?_, ?_, row_grown (row_alloc RB.out.1 _) hgrow3 (by omega), (RB.out.2.alloc RB.out.2.size _).grown hgrow3 (by have := RB.out.2.size; simp; omega) (fun k hk => by cases hk; omega)⟩
              · rw [LL.out, if_neg h10]; rfl
              · rw [KK.out, if_neg hcr]; simp
              · rw [KK.out, if_neg hcr]
                have := Buf.app hown3
                rw [h13]
                simpa using this
            case measure => simp [intOf]; omega
        · have f13 : (dz k == 13) = false := by rw [beq_eq_false_iff_ne]; exact h13
          have hcr : ¬ isCR dz len k := by rintro ⟨d1, _⟩; exact h13 d1
          clear c1
          go_wp2_with (at_builtin; refine wpList_append_fits _ rfl (.tmp 58) (.tmp 63) 22 rfl 0 5 i0 1 Trym.underlying22 hi hz1 w1.heap.size X.length len _ rfl (BF.out.alloc _) ⟨wr.heap.size, 0, none⟩ 1 1 [.int .u8 (dz k)] rfl rfl (by intro t u ht; match t, ht with | 0, ht => simp at ht; subst ht; simp [Addr.add]) (by intro u hu; simp at hu; subst hu; rfl) (by omega) ?_; intro w3 hown3 hgrow3)
          go_roundw
          case rel =>
            refine ⟨k + 1, by omega, by go_num, ?_, ?_, ?_, row_grown (row_alloc RB.out.1 _) hgrow3 (by omega), (RB.out.2.alloc RB.out.2.size _).grown hgrow3 (by have := RB.out.2.size; simp; omega) (fun k hk => by cases hk; omega)⟩
            · rw [LL.out, if_neg h10]; rfl
            · rw [KK.out, if_neg hcr]; simp
            · rw [KK.out, if_neg hcr]
              have := Buf.app hown3
              simpa using this
          case measure => simp [intOf]; omega
    · have hkn : k = len := by omega
      clear LL KK hkl hle
      subst hkk
      subst hlk
      subst hkn
      have BW := hide hbuf
      have RB := hide (And.intro hrow hbel)
      have zr := hbuf.lt
      have hle := lns_le dz k
      clear hrow hbel hbuf hlt
      go_wp2_with (at_make; refine wpList_make_own _ rfl _ _ 22 rfl 0 5 i0 (.int .u8 0) 1 Trym.underlying22 hi hz0 hz1 _ _ _ k rfl rfl (by omega) ?b2 ?b3 (Nat.zero_le _) ?_)
      case b2 => rw [hz2]; omega
      case b3 => unfold maxLen; omega
      intro w2 hown2 hgrow2
      have H0 : Hid (Buf w2 wr.heap.size 0 k (keep dz k 0) ∧ Buf w2 w1.heap.size (keep dz k k).length k (keep dz k k) ∧ Row w2 w.heap.size k dz ∧ Below w.heap.size w w2) :=
        ⟨hown2, BW.out.same (hgrow2.block _ zr (by simp)), RB.out.1.of_block (hgrow2.block _ RB.out.1.lt (by simp)), RB.out.2.grown hgrow2 RB.out.2.size (fun k h => by cases h)⟩
      clear hown2 hgrow2 RB BW
      generalize wr.heap.size = g2 at H0 zr ⊢
      go_wp2
      go_loopw [6, 7, 8, 9] (fun got ps ln st wq => ∃ pos s : Nat, s ≤ pos ∧ pos ≤ k ∧ got = .slice (some ⟨g2, 0, none⟩) (keep dz k pos).length k ∧ ps = .int .i64 pos ∧ ln = .int .i64 (lns dz pos) ∧ st = .int .i64 s ∧
          Buf wq g2 (keep dz k pos).length k (keep dz k pos) ∧ Buf wq w1.heap.size (keep dz k k).length k (keep dz k k) ∧ Row wq w.heap.size k dz ∧ Below w.heap.size w wq) (fun _ ps _ _ _ => k - (intOf ps).toNat)
      case atStart => exact ⟨0, 0, Nat.le_refl _, Nat.zero_le _, rfl, rfl, rfl, rfl, H0.out⟩
      case round =>
        obtain ⟨pos, st, hst, hpk, rfl, rfl, rfl, rfl, hgot, hwant, hrow, hbel⟩ := hrel
        clear H0
        have hlp := lns_le dz pos
        have hkp := keep_len dz k pos
        have BG := hide hgot
        have BW := hide hwant
        have RB := hide (And.intro hrow hbel)
        have zg := hgot.lt
        have zw := hwant.lt
        have zB := hrow.lt
        clear hgot hwant hrow hbel
        by_cases hlt : pos < k
        · go_wp2_with fail
          refine (cfgNext_any w.heap.size k k pos (lns dz pos) dz _ RB.out.1 hlen (by omega) hpk).mono ?_
          rintro er w5 ⟨x, ok, p, l, rfl, hN, hb5⟩
          obtain ⟨rfl, hp1, hp2, hkeep, hll⟩ := nx_step hN hlt rfl
          have BG5 := hide (BG.out.below hb5 zg)
          have BW5 := hide (BW.out.below hb5 zw)
          have RB5 := hide (And.intro (row_below RB.out.1 hb5 zB) (RB.out.2.trans (hb5.mono RB.out.2.size)))
          have HK := hide hkeep
          have HL := hide hll
          have z5 := hb5.size
          have zz := RB.out.2.size
          clear BG BW RB hN hb5 hkeep hll
          have f1 : ¬ ((p : Int) ≤ (pos : Int)) := by omega
          have f2 : ¬ ((k : Int) < (p : Int)) := by omega
          have f3 : decide ((p : Int) ≤ (pos : Int)) = false := by rw [decide_eq_false_iff_not]; exact f1
          have f4 : decide ((k : Int) < (p : Int)) = false := by rw [decide_eq_false_iff_not]; exact f2
          go_wp2_with (at_builtin; refine wpList_append_fits _ rfl (.tmp 108) (.tmp 110) 22 rfl 0 5 i0 1 Trym.underlying22 hi hz1 g2 (keep dz k pos).length k _ rfl (BG5.out.alloc _) ⟨w5.heap.size, 0, none⟩ 1 1 [.int .u8 x] rfl rfl (by intro t u ht; match t, ht with | 0, ht => simp at ht; subst ht; simp [Addr.add]) (by intro u hu; simp at hu; subst hu; rfl) (by omega) ?_; intro w6 hown6 hgrow6)
          go_roundw
          case rel =>
            refine ⟨p, st + 1, by omega, by omega, ?_, ?_, ?_, by go_num, ?_, (BW5.out.alloc _).grown hgrow6 (by omega), row_grown (row_alloc RB5.out.1 _) hgrow6 (by omega), (RB5.out.2.alloc RB5.out.2.size _).grown hgrow6 (by have := RB5.out.2.size; simp; omega) (fun k hk => by cases hk; omega)⟩
            · rw [HK.out]; simp
            · rfl
            · rw [HL.out]
            · rw [HK.out]
              have := Buf.app hown6
              simpa using this
          case measure => simp [intOf]; omega
        · have hpe : pos = k := by omega
          subst hpe
          go_wp2_with fail
          refine (cfgNext_any w.heap.size pos pos pos (lns dz pos) dz _ RB.out.1 hlen (by omega) (Nat.le_refl _)).mono ?_
          rintro er w5 ⟨x, ok, p, l, rfl, hN, hb5⟩
          obtain ⟨_, e2, _, _⟩ := hN.fin rfl
          subst e2
          have BG5 := hide (BG.out.below hb5 zg)
          have BW5 := hide (BW.out.below hb5 zw)
          have B5 := hide (RB.out.2.trans (hb5.mono RB.out.2.size))
          clear BG BW RB hN hb5
          go_wp2_with fail
          refine (beq_any g2 w1.heap.size (keep dz pos pos).length pos pos (fun i => (keep dz pos pos).getD i 0) _ (by omega) BG5.out.lt BW5.out.lt (fun i h => ⟨BG5.out.cell h, BW5.out.cell h⟩)).mono ?_
          rintro er w6 ⟨rfl, hb6⟩
          have B6 := hide (B5.out.trans (hb6.mono B5.out.size))
          clear BG5 BW5 B5 hb6
          go_wp2
          go_ret
          exact ⟨rfl, B6.out⟩

end Go.Proofs.Qxb6601415aMods
