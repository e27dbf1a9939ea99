import Derived.Test.Qxb6605559aModsQ
namespace Go.Proofs.Qxb6605559aMods
open Go.RowKit Go.Maps
set_option linter.unusedVariables false

/-- Block bg is the set of those that are gone. -/
def OwnG (w : World) (bg : Nat) (D : DataW Unit) : Prop := w.ownsMap Trym.prog 23 (plainElem Trym.prog 4) bg (Maps.size D) D
theorem ownG_store {w : World} {bg : Nat} {D : DataW Unit} (h : OwnG w bg D) (hs : Maps.size D < 4294967296) {n hh : Int} (hn : (Lit.int .u32 n).wf = true) (hw : (Lit.int .u8 hh).wf = true) :
    ∃ w1, (Instr.mapUpdate 71 (.map (some bg)) (.int .u64 (n * 256 + hh)) (.bool true)).run Trym.prog w = .ok () w1 ∧ OwnG w1 bg (D.put (k64 n hh) (.lit (.bool true))) ∧ Kp w w1 (fun i => i = bg) := by
  obtain ⟨w1, hrun, hown1, hturn⟩ := World.ownsMap.store h law23 Trym.underlying71 (by unfold maxLen; omega) (k64_key hn hw) (plainElem_bool Trym.underlying4 true)
  exact ⟨w1, hrun, owns_tight hown1, (Kp.refl w _).grown hturn.grown (fun k hk _ => by cases hk; rfl)⟩
theorem ownG_len {w : World} {bg : Nat} {D : DataW Unit} (h : OwnG w bg D) (ty : TypeId) : (Builtin.len_ #[71] ty #[.map (some bg)]).run Trym.prog w = .ok (.int .i64 (Maps.size D)) w := World.ownsMap.len h Trym.underlying71 ty
theorem ownG_alloc {w : World} {bg : Nat} {D : DataW Unit} (h : OwnG w bg D) (o : Obj) : OwnG (w.alloc o) bg D := World.ownsMap.alloc h o
theorem ownG_made (w : World) : OwnG (w.alloc (.map #[] 0)) w.heap.size (.map []) := World.ownsMap_made (H := Unit) w Trym.prog 23 (plainElem Trym.prog 4)

/-- Is entry i to be passed over? -/
def skipP (en eh : Nat → Int) (us : Bool) (s : Int) (i : Nat) : Prop := us = true ∧ en i * 256 + eh i = s
/-- Has one of the first k been found gone? -/
def goneP (en eh : Nat → Int) (us : Bool) (s : Int) (D : DataW Unit) (k : Nat) : Prop := ∃ i, i < k ∧ ¬ skipP en eh us s i ∧ Maps.has D (sk (en i) (eh i)) = false
/-- What the set holds behind k entries. -/
def GInv (en eh : Nat → Int) (us : Bool) (s : Int) (D : DataW Unit) (fn fh : Int) (k : Nat) (D3 : DataW Unit) : Prop :=
  Tidy D3 ∧ (goneP en eh us s D k → Maps.size D3 = 1 ∧ Maps.has D3 (k64 fn fh) = true) ∧ (¬ goneP en eh us s D k → D3 = .map [])

theorem ginv_start (en eh : Nat → Int) (us : Bool) (s : Int) (D : DataW Unit) (fn fh : Int) : GInv en eh us s D fn fh 0 (.map []) :=
  ⟨tidy_empty, fun ⟨i, h, _⟩ => by omega, fun _ => rfl⟩

theorem ginv_keep {en eh : Nat → Int} {us : Bool} {s : Int} {D : DataW Unit} {fn fh : Int} {k : Nat} {D3 : DataW Unit} (G : GInv en eh us s D fn fh k D3) (h : skipP en eh us s k ∨ Maps.has D (sk (en k) (eh k)) = true) : GInv en eh us s D fn fh (k + 1) D3 := by
  have e : goneP en eh us s D (k + 1) ↔ goneP en eh us s D k := by
    constructor
    · rintro ⟨i, hi, h1, h2⟩
      by_cases hik : i = k
      · subst hik
        rcases h with h | h
        · exact absurd h h1
        · rw [h] at h2; cases h2
      · exact ⟨i, by omega, h1, h2⟩
    · rintro ⟨i, hi, h1, h2⟩
      exact ⟨i, by omega, h1, h2⟩
  exact ⟨G.1, fun g => G.2.1 (e.1 g), fun g => G.2.2 (fun x => g (e.2 x))⟩

theorem ginv_gone {en eh : Nat → Int} {us : Bool} {s : Int} {D : DataW Unit} {fn fh : Int} {k : Nat} {D3 : DataW Unit} (G : GInv en eh us s D fn fh k D3) (h1 : ¬ skipP en eh us s k) (h2 : Maps.has D (sk (en k) (eh k)) = false) (e1 : en k = fn) (e2 : eh k = fh) :
    GInv en eh us s D fn fh (k + 1) (D3.put (k64 (en k) (eh k)) (.lit (.bool true))) := by
  have hk : WideAt.IsKeyLit (k64 (en k) (eh k)) := trivial
  refine ⟨G.1.put hk _, fun _ => ⟨?_, ?_⟩, fun g => absurd ⟨k, by omega, h1, h2⟩ g⟩
  · rw [size_put G.1]
    by_cases g : goneP en eh us s D k
    · obtain ⟨g1, g2⟩ := G.2.1 g
      rw [e1, e2, g2, g1]
      rfl
    · rw [G.2.2 g]
      rfl
  · rw [← e1, ← e2]
    exact has_put_same G.1.isMap hk _

theorem ginv_size {en eh : Nat → Int} {us : Bool} {s : Int} {D : DataW Unit} {fn fh : Int} {k : Nat} {D3 : DataW Unit} (G : GInv en eh us s D fn fh k D3) : Maps.size D3 ≤ 1 := by
  by_cases g : goneP en eh us s D k
  · rw [(G.2.1 g).1]; exact Nat.le_refl _
  · rw [G.2.2 g]; decide

/-- What is known of each entry ahead of 'countGone'. -/
def Each (en eh : Nat → Int) (us : Bool) (s : Int) (D DM : DataW Unit) (fn fh : Int) (k : Nat) : Prop :=
  ∀ i, i < k → skipP en eh us s i ∨ (Maps.has D (sk (en i) (eh i)) = false ∧ en i = fn ∧ eh i = fh) ∨ (Maps.has D (sk (en i) (eh i)) = true ∧ numAt D (sk (en i) (eh i)) = numAt DM (k64 (en i) (eh i)))

set_option maxHeartbeats 2000000 in
set_option maxRecDepth 20000 in
theorem countGone_skip (bc bo B len cap : Nat) (en eh eq : Nat → Int) (r t m u p l e : Int) (mv : Value) (cn ch cs : Int) (hc : Bool) (D DM : DataW Unit) (s fn fh : Int) (w : World) (hlen : len ≤ 65536)
    (hctr : Ctr w bc r t m u p l e mv cn ch cs hc) (hl : Lst w mv D) (hM : OwnM w bo DM) (hrow : w.rowIs B 65 (len * 3) (cellE en eh eq))
    (hwf : ∀ i, i < len → (Lit.int .u32 (en i)).wf = true ∧ (Lit.int .u8 (eh i)).wf = true) (hE : Each en eh true s D DM fn fh len) :
    Calls Trym.prog 15 #[.pointer (some ⟨bc, 0, none⟩), .slice (some ⟨B, 0, none⟩) len cap, .map (some bo), .int .u64 s, .bool true] w fun er w' =>
      ∃ g : Nat, er = .returned (.tuple #[.int .i64 g, .bool true]) ∧ (goneP en eh true s D len → g = 1) ∧ (¬ goneP en eh true s D len → g = 0) ∧ Below w.heap.size w w' := by
  have hmm := @run_makeMap Trym.prog
  have HF := hide (And.intro hctr (And.intro hl (And.intro hM (And.intro hrow (And.intro hwf hE)))))
  have zc := hctr.lt
  have zm := hM.lt
  have zr := hrow.lt
  have zl : ∀ i, mv = .map (some i) → i < w.heap.size := fun i e => hl.lt e
  have ZL := hide zl
  clear hctr hl hM hrow hwf hE zl
  go_enter Trym.func15, Trym.ntmps15
  go_wp2
  go_loopw [13] (fun i wr => ∃ (j : Nat) (D3 : DataW Unit), j ≤ len ∧ i = .int .i64 j ∧ OwnG wr w.heap.size D3 ∧ GInv en eh true s D fn fh j D3 ∧ Below w.heap.size w wr) (fun i _ => len - (intOf i).toNat)
  case atStart => exact ⟨0, .map [], Nat.zero_le _, rfl, ownG_made w, ginv_start _ _ _ _ _ _ _, (Below.refl _ _).alloc (Nat.le_refl _) _⟩
  case round =>
    obtain ⟨j, D3, hj, rfl, hG, G, hbel⟩ := hrel
    by_cases hlt : j < len
    · obtain ⟨hctr, hl, hM, hrow, hwf, hE⟩ := HF.out
      obtain ⟨wn, wh⟩ := hwf j hlt
      obtain ⟨n0, n1⟩ := u32_bd wn
      obtain ⟨h0, h1⟩ := u8_bd wh
      have zw := hbel.size
      have zg := hG.lt
      have Rr := hrow.of_block (hbel.block B zr)
      have d0 : wr.cell? ⟨B, j * 3, none⟩ = some (.int .u32 (en j)) := by rw [Rr.cell (i := j * 3) (by omega), cellE0]
      have d1 : wr.cell? ⟨B, j * 3 + 1, none⟩ = some (.int .u8 (eh j)) := by rw [Rr.cell (i := j * 3 + 1) (by omega), cellE1]
      have d2 : wr.cell? ⟨B, j * 3 + 2, none⟩ = some (.int .u32 (eq j)) := by rw [Rr.cell (i := j * 3 + 2) (by omega), cellE2]
      have kx := Kp.ofBelow hbel
      have Cx := (hctr.below hbel zc).alloc (.cells #[.int .u32 (en j), .int .u8 (eh j), .int .u32 (eq j)] 65)
      have Lx := (kx.lst hl (fun i e => by have := ZL.out i e; omega)).alloc (.cells #[.int .u32 (en j), .int .u8 (eh j), .int .u32 (eq j)] 65)
      have Mx := ownM_alloc (kx.ownM hM (by omega)) (.cells #[.int .u32 (en j), .int .u8 (eh j), .int .u32 (eq j)] 65)
      have Bx := hbel.alloc zw (.cells #[.int .u32 (en j), .int .u8 (eh j), .int .u32 (eq j)] 65)
      have Gx := ownG_alloc hG (.cells #[.int .u32 (en j), .int .u8 (eh j), .int .u32 (eq j)] 65)
      have hget := ownM_get Mx wn wh
      have hsz := ginv_size G
      by_cases hsk : en j * 256 + eh j = s
      · have hb : (en j * 256 + eh j == s) = true := by simpa using hsk
        have NX := hide (And.intro Gx (And.intro (ginv_keep G (Or.inl ⟨rfl, hsk⟩)) Bx))
        clear hctr hl hM hrow hwf hE kx Cx Lx Mx Bx Gx hget Rr hG G hbel hsk
        go_wp2_with fail
        refine (key_any (en j) (eh j) _ n0 n1 h0 h1).mono ?_
        rintro er w4 ⟨rfl, rfl⟩
        go_wp2
        go_roundw
        case rel => exact ⟨j + 1, D3, by omega, by go_num, NX.out⟩
        case measure => simp [intOf]; omega
      · have hb : (en j * 256 + eh j == s) = false := by simpa using hsk
        rcases hE j hlt with hh | ⟨g1, g2, g3⟩ | ⟨p1, p2⟩
        · exact absurd hh.2 hsk
        · obtain ⟨w2, hst, hG2, k2⟩ := ownG_store Gx (by omega) wn wh
          have hcall : Calls Trym.prog 14 #[.pointer (some ⟨bc, 0, none⟩), .int .u32 (en j), .int .u8 (eh j)] (wr.alloc (.cells #[.int .u32 (en j), .int .u8 (eh j), .int .u32 (eq j)] 65)) fun er w' => er = .returned (.tuple #[.int .u32 (numAt D (sk (en j) (eh j))), .bool false]) ∧ w' = wr.alloc (.cells #[.int .u32 (en j), .int .u8 (eh j), .int .u32 (eq j)] 65) := by
            refine (zzLast_any _ _ _ _ (en j) (eh j) _ Cx.last Lx.last wn wh).mono ?_
            rintro er w' ⟨rfl, rfl⟩
            exact ⟨by rw [g1], rfl⟩
          have HC := hide hcall
          generalize numAt D (sk (en j) (eh j)) = pp at HC
          have NX := hide (And.intro hG2 (And.intro (ginv_gone G (fun x => hsk x.2) g1 g2 g3) (Kp.toBelow Bx k2 (by simp; omega) (fun i hi => by omega))))
          clear hctr hl hM hrow hwf hE kx Cx Lx Mx Bx Gx hget Rr hG G hbel hsk hcall hG2 k2 g1 g2 g3
          go_wp2_with fail
          refine (key_any (en j) (eh j) _ n0 n1 h0 h1).mono ?_
          rintro er w4 ⟨rfl, rfl⟩
          go_wp2_with fail
          refine HC.out.mono ?_
          rintro er w4 ⟨rfl, rfl⟩
          go_wp2
          go_roundw
          case rel => exact ⟨j + 1, _, by omega, by go_num, NX.out⟩
          case measure => simp [intOf]; omega
        · have hcall : Calls Trym.prog 14 #[.pointer (some ⟨bc, 0, none⟩), .int .u32 (en j), .int .u8 (eh j)] (wr.alloc (.cells #[.int .u32 (en j), .int .u8 (eh j), .int .u32 (eq j)] 65)) fun er w' => er = .returned (.tuple #[.int .u32 (numAt DM (k64 (en j) (eh j))), .bool true]) ∧ w' = wr.alloc (.cells #[.int .u32 (en j), .int .u8 (eh j), .int .u32 (eq j)] 65) := by
            refine (zzLast_any _ _ _ _ (en j) (eh j) _ Cx.last Lx.last wn wh).mono ?_
            rintro er w' ⟨rfl, rfl⟩
            exact ⟨by rw [p1, p2], rfl⟩
          have HC := hide hcall
          generalize numAt DM (k64 (en j) (eh j)) = pp at HC hget
          have NX := hide (And.intro Gx (And.intro (ginv_keep G (Or.inr p1)) Bx))
          clear hctr hl hM hrow hwf hE kx Cx Lx Mx Bx Gx Rr hG G hbel hsk hcall p1 p2
          go_wp2_with fail
          refine (key_any (en j) (eh j) _ n0 n1 h0 h1).mono ?_
          rintro er w4 ⟨rfl, rfl⟩
          go_wp2_with fail
          refine HC.out.mono ?_
          rintro er w4 ⟨rfl, rfl⟩
          go_wp2
          go_roundw
          case rel => exact ⟨j + 1, D3, by omega, by go_num, NX.out⟩
          case measure => simp [intOf]; omega
    · have hjl : j = len := by omega
      subst hjl
      have hlenG := fun ty => ownG_len hG ty
      have NX := hide (And.intro G hbel)
      clear hG G hbel
      go_wp2
      go_ret2
      exact ⟨Maps.size D3, rfl, fun g => (NX.out.1.2.1 g).1, fun g => by rw [NX.out.1.2.2 g]; rfl, NX.out.2⟩

end Go.Proofs.Qxb6605559aMods
