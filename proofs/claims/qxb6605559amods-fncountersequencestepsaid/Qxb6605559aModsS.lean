import Derived.Test.Qxb6605559aModsR
namespace Go.Proofs.Qxb6605559aMods
open Go.RowKit Go.Maps
set_option linter.unusedVariables false

set_option maxHeartbeats 2000000 in
set_option maxRecDepth 20000 in
theorem countGone_plain (bc bo B len cap : Nat) (en eh eq : Nat → Int) (r t m u p l e : Int) (mv : Value) (cn ch cs : Int) (hc : Bool) (D DM : DataW Unit) (s fn fh : Int) (w : World) (hlen : len ≤ 65536)
    (hctr : Ctr w bc r t m u p l e mv cn ch cs hc) (hl : Lst w mv D) (hM : OwnM w bo DM) (hrow : w.rowIs B 65 (len * 3) (cellE en eh eq))
    (hwf : ∀ i, i < len → (Lit.int .u32 (en i)).wf = true ∧ (Lit.int .u8 (eh i)).wf = true) (hE : Each en eh false s D DM fn fh len) :
    Calls Trym.prog 15 #[.pointer (some ⟨bc, 0, none⟩), .slice (some ⟨B, 0, none⟩) len cap, .map (some bo), .int .u64 s, .bool false] w fun er w' =>
      ∃ g : Nat, er = .returned (.tuple #[.int .i64 g, .bool true]) ∧ (goneP en eh false s D len → g = 1) ∧ (¬ goneP en eh false s D len → g = 0) ∧ Below w.heap.size w w' := by
  have hmm := @run_makeMap Trym.prog
  have HF := hide (And.intro hctr (And.intro hl (And.intro hM (And.intro hrow (And.intro hwf hE)))))
  have zc := hctr.lt
  have zm := hM.lt
  have zr := hrow.lt
  have zl : ∀ i, mv = .map (some i) → i < w.heap.size := fun i e => hl.lt e
  have ZL := hide zl
  clear hctr hl hM hrow hwf hE zl
  go_enter Trym.func15, Trym.ntmps15
  go_wp2
  go_loopw [13] (fun i wr => ∃ (j : Nat) (D3 : DataW Unit), j ≤ len ∧ i = .int .i64 j ∧ OwnG wr w.heap.size D3 ∧ GInv en eh false s D fn fh j D3 ∧ Below w.heap.size w wr) (fun i _ => len - (intOf i).toNat)
  case atStart => exact ⟨0, .map [], Nat.zero_le _, rfl, ownG_made w, ginv_start _ _ _ _ _ _ _, (Below.refl _ _).alloc (Nat.le_refl _) _⟩
  case round =>
    obtain ⟨j, D3, hj, rfl, hG, G, hbel⟩ := hrel
    by_cases hlt : j < len
    · obtain ⟨hctr, hl, hM, hrow, hwf, hE⟩ := HF.out
      obtain ⟨wn, wh⟩ := hwf j hlt
      obtain ⟨n0, n1⟩ := u32_bd wn
      obtain ⟨h0, h1⟩ := u8_bd wh
      have zw := hbel.size
      have zg := hG.lt
      have Rr := hrow.of_block (hbel.block B zr)
      have d0 : wr.cell? ⟨B, j * 3, none⟩ = some (.int .u32 (en j)) := by rw [Rr.cell (i := j * 3) (by omega), cellE0]
      have d1 : wr.cell? ⟨B, j * 3 + 1, none⟩ = some (.int .u8 (eh j)) := by rw [Rr.cell (i := j * 3 + 1) (by omega), cellE1]
      have d2 : wr.cell? ⟨B, j * 3 + 2, none⟩ = some (.int .u32 (eq j)) := by rw [Rr.cell (i := j * 3 + 2) (by omega), cellE2]
      have kx := Kp.ofBelow hbel
      have Cx := (hctr.below hbel zc).alloc (.cells #[.int .u32 (en j), .int .u8 (eh j), .int .u32 (eq j)] 65)
      have Lx := (kx.lst hl (fun i e => by have := ZL.out i e; omega)).alloc (.cells #[.int .u32 (en j), .int .u8 (eh j), .int .u32 (eq j)] 65)
      have Mx := ownM_alloc (kx.ownM hM (by omega)) (.cells #[.int .u32 (en j), .int .u8 (eh j), .int .u32 (eq j)] 65)
      have Bx := hbel.alloc zw (.cells #[.int .u32 (en j), .int .u8 (eh j), .int .u32 (eq j)] 65)
      have Gx := ownG_alloc hG (.cells #[.int .u32 (en j), .int .u8 (eh j), .int .u32 (eq j)] 65)
      have hget := ownM_get Mx wn wh
      have hsz := ginv_size G
      rcases hE j hlt with hh | ⟨g1, g2, g3⟩ | ⟨p1, p2⟩
      · exact absurd hh.1 (by decide)
      · obtain ⟨w2, hst, hG2, k2⟩ := ownG_store Gx (by omega) wn wh
        have hcall : Calls Trym.prog 14 #[.pointer (some ⟨bc, 0, none⟩), .int .u32 (en j), .int .u8 (eh j)] (wr.alloc (.cells #[.int .u32 (en j), .int .u8 (eh j), .int .u32 (eq j)] 65)) fun er w' => er = .returned (.tuple #[.int .u32 (numAt D (sk (en j) (eh j))), .bool false]) ∧ w' = wr.alloc (.cells #[.int .u32 (en j), .int .u8 (eh j), .int .u32 (eq j)] 65) := by
          refine (zzLast_any _ _ _ _ (en j) (eh j) _ Cx.last Lx.last wn wh).mono ?_
          rintro er w' ⟨rfl, rfl⟩
          exact ⟨by rw [g1], rfl⟩
        have HC := hide hcall
        generalize numAt D (sk (en j) (eh j)) = pp at HC
        have NX := hide (And.intro hG2 (And.intro (ginv_gone G (fun x => absurd x.1 (by decide)) g1 g2 g3) (Kp.toBelow Bx k2 (by simp; omega) (fun i hi => by omega))))
        clear hctr hl hM hrow hwf hE kx Cx Lx Mx Bx Gx hget Rr hG G hbel hcall hG2 k2 g1 g2 g3
        go_wp2_with fail
        refine (key_any (en j) (eh j) _ n0 n1 h0 h1).mono ?_
        rintro er w4 ⟨rfl, rfl⟩
        go_wp2_with fail
        refine HC.out.mono ?_
        rintro er w4 ⟨rfl, rfl⟩
        go_wp2
        go_roundw
        case rel => exact ⟨j + 1, _, by omega, by go_num, NX.out⟩
        case measure => simp [intOf]; omega
      · have hcall : Calls Trym.prog 14 #[.pointer (some ⟨bc, 0, none⟩), .int .u32 (en j), .int .u8 (eh j)] (wr.alloc (.cells #[.int .u32 (en j), .int .u8 (eh j), .int .u32 (eq j)] 65)) fun er w' => er = .returned (.tuple #[.int .u32 (numAt DM (k64 (en j) (eh j))), .bool true]) ∧ w' = wr.alloc (.cells #[.int .u32 (en j), .int .u8 (eh j), .int .u32 (eq j)] 65) := by
          refine (zzLast_any _ _ _ _ (en j) (eh j) _ Cx.last Lx.last wn wh).mono ?_
          rintro er w' ⟨rfl, rfl⟩
          exact ⟨by rw [p1, p2], rfl⟩
        have HC := hide hcall
        generalize numAt DM (k64 (en j) (eh j)) = pp at HC hget
        have NX := hide (And.intro Gx (And.intro (ginv_keep G (Or.inr p1)) Bx))
        clear hctr hl hM hrow hwf hE kx Cx Lx Mx Bx Gx Rr hG G hbel hcall p1 p2
        go_wp2_with fail
        refine (key_any (en j) (eh j) _ n0 n1 h0 h1).mono ?_
        rintro er w4 ⟨rfl, rfl⟩
        go_wp2_with fail
        refine HC.out.mono ?_
        rintro er w4 ⟨rfl, rfl⟩
        go_wp2
        go_roundw
        case rel => exact ⟨j + 1, D3, by omega, by go_num, NX.out⟩
        case measure => simp [intOf]; omega
    · have hjl : j = len := by omega
      subst hjl
      have hlenG := fun ty => ownG_len hG ty
      have NX := hide (And.intro G hbel)
      clear hG G hbel
      go_wp2
      go_ret2
      exact ⟨Maps.size D3, rfl, fun g => (NX.out.1.2.1 g).1, fun g => by rw [NX.out.1.2.2 g]; rfl, NX.out.2⟩

set_option maxHeartbeats 1000000 in
theorem countGone_zero (bc bo cap : Nat) (a : Option Addr) (us : Bool) (s : Int) (w : World) :
    Calls Trym.prog 15 #[.pointer (some ⟨bc, 0, none⟩), .slice a 0 cap, .map (some bo), .int .u64 s, .bool us] w fun er w' => er = .returned (.tuple #[.int .i64 0, .bool true]) ∧ Below w.heap.size w w' := by
  have hmm := @run_makeMap Trym.prog
  have hlenG := fun ty => ownG_len (ownG_made w) ty
  rw [show ((Maps.size (DataW.map [] : DataW Unit) : Nat) : Int) = 0 from rfl] at hlenG
  go_enter Trym.func15, Trym.ntmps15
  go_wp2
  refine wp_loop_rounds 1 ?_
  rw [rounds_succ]
  go_wp2
  go_ret2
  exact ⟨rfl, (Below.refl _ _).alloc (Nat.le_refl _) _⟩

theorem countGone_any (bc bo B len cap : Nat) (a : Option Addr) (en eh eq : Nat → Int) (r t m u p l e : Int) (mv : Value) (cn ch cs : Int) (hc : Bool) (D DM : DataW Unit) (us : Bool) (s fn fh : Int) (w : World) (hlen : len ≤ 65536)
    (hctr : Ctr w bc r t m u p l e mv cn ch cs hc) (hl : Lst w mv D) (hM : OwnM w bo DM) (hrow : RowE w a len en eh eq B)
    (hwf : ∀ i, i < len → (Lit.int .u32 (en i)).wf = true ∧ (Lit.int .u8 (eh i)).wf = true) (hE : Each en eh us s D DM fn fh len) :
    Calls Trym.prog 15 #[.pointer (some ⟨bc, 0, none⟩), .slice a len cap, .map (some bo), .int .u64 s, .bool us] w fun er w' =>
      ∃ g : Nat, er = .returned (.tuple #[.int .i64 g, .bool true]) ∧ (goneP en eh us s D len → g = 1) ∧ (¬ goneP en eh us s D len → g = 0) ∧ Below w.heap.size w w' := by
  rcases hrow with rfl | ⟨rfl, hr⟩
  · refine (countGone_zero bc bo cap a us s w).mono ?_
    rintro er w' ⟨rfl, hb⟩
    exact ⟨0, rfl, fun ⟨i, hi, _⟩ => by omega, fun _ => rfl, hb⟩
  · cases us
    · exact countGone_plain bc bo B len cap en eh eq r t m u p l e mv cn ch cs hc D DM s fn fh w hlen hctr hl hM hr hwf hE
    · exact countGone_skip bc bo B len cap en eh eq r t m u p l e mv cn ch cs hc D DM s fn fh w hlen hctr hl hM hr hwf hE

end Go.Proofs.Qxb6605559aMods
