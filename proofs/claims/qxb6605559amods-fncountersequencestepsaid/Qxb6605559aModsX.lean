import Derived.Test.Qxb6605559aModsW
namespace Go.Proofs.Qxb6605559aMods
open Go.RowKit Go.Maps
set_option linter.unusedVariables false

/-- Block b is a Group. -/
def GB (w : World) (b : Nat) (v h s n : Int) : Prop := w.heap[b]? = some (.cells #[.int .u8 v, .int .u8 h, .int .u32 s, .int .u32 n] 30 (0, 0))
section
variable {w : World} {b : Nat} {v h s n : Int}
theorem GB.lt (g : GB w b v h s n) : b < w.heap.size := (Array.getElem?_eq_some_iff.1 g).1
theorem GB.cells (g : GB w b v h s n) : w.cell? ⟨b, 0, none⟩ = some (.int .u8 v) ∧ w.cell? ⟨b, 1, none⟩ = some (.int .u8 h) ∧ w.cell? ⟨b, 2, none⟩ = some (.int .u32 s) ∧ w.cell? ⟨b, 3, none⟩ = some (.int .u32 n) := by
  unfold GB at g; simp [World.cell?, g]
theorem GB.same {w' : World} (g : GB w b v h s n) (hb : w'.heap[b]? = w.heap[b]?) : GB w' b v h s n := hb.trans g
theorem GB.below {B : Nat} {w' : World} (g : GB w b v h s n) (hb : Below B w w') (hB : b < B) : GB w' b v h s n := g.same (hb.block b hB)
theorem GB.kp {w' : World} {S : Nat → Prop} (g : GB w b v h s n) (hk : Kp w w' S) (hS : ¬ S b) : GB w' b v h s n := g.same (hk.block b g.lt hS)
end
theorem gB_made (w : World) (v h s n : Int) : GB (w.alloc (.cells #[.int .u8 v, .int .u8 h, .int .u32 s, .int .u32 n] 30)) w.heap.size v h s n := (MapKept.heap_alloc w _).1
theorem StB.alloc {w : World} {b : Nat} {v : Value} {nm : Bool} {r t m u p l e cn ch cs : Int} {hc : Bool} (h : StB w b v nm r t m u p l e cn ch cs hc) (o : Obj) : StB (w.alloc o) b v nm r t m u p l e cn ch cs hc := h.same (Below.heap_alloc _ _ _ h.lt)

/-- What the walk's calls answer behind the header. -/
structure Out (w : World) (bc bo k c2 : Nat) (a2 : Option Addr) (cur : Int) (us : Bool) (n h ln gn x : Int) (st : Bool) : Prop where
  len : Calls Trym.prog 13 #[.pointer (some ⟨bc, 0, none⟩)] w fun er w' => er = .returned (.int .i64 ln) ∧ w' = w
  gone : Calls Trym.prog 15 #[.pointer (some ⟨bc, 0, none⟩), .slice a2 k c2, .map (some bo), .int .u64 cur, .bool us] w fun er w' => er = .returned (.tuple #[.int .i64 gn, .bool true]) ∧ Below w.heap.size w w'
  last : Calls Trym.prog 14 #[.pointer (some ⟨bc, 0, none⟩), .int .u32 n, .int .u8 h] w fun er w' => er = .returned (.tuple #[.int .u32 x, .bool st]) ∧ w' = w

section
variable {en eh eq : Nat → Int} {k c2 bc bo B : Nat} {a2 : Option Addr} {D D' DM : DataW Unit} {r t m u p l' e : Int} {mv' : Value} {cn ch cs n h s : Int} {w : World} {z : Int}

/-- The map stays as it was. -/
theorem out_stay (I : EntInv en eh k D DM) (hk : k ≤ 65536) (hC : Ctr w bc r t m u p l' e mv' n h s true) (hL : Lst w mv' D) (hM : OwnM w bo DM) (hR : RowE w a2 k en eh eq B)
    (hwf : ∀ i, i < k → (Lit.int .u32 (en i)).wf = true ∧ (Lit.int .u8 (eh i)).wf = true) (hn : (Lit.int .u32 n).wf = true) (hh : (Lit.int .u8 h).wf = true) (hz : z = Maps.size DM) (cur : Int) :
    Out w bc bo k c2 a2 cur false n h z 0 (numAt DM (k64 n h)) (Maps.has DM (k64 n h)) := by
  obtain ⟨g1, g2⟩ := I.agree n h hn hh
  have hE : ∀ i, i < k → Maps.has D (sk (en i) (eh i)) = true ∧ numAt D (sk (en i) (eh i)) = numAt DM (k64 (en i) (eh i)) := by
    intro i hi
    obtain ⟨b1, b2⟩ := I.agree _ _ (hwf i hi).1 (hwf i hi).2
    exact ⟨b1.trans (I.all i hi), b2⟩
  refine ⟨?_, ?_, ?_⟩
  · refine (zzLastLen_any _ _ _ _ _ hC.last hL.last).mono ?_
    rintro er w' ⟨rfl, hw⟩
    exact ⟨ret_int (by rw [hz, I.sz]), hw⟩
  · refine (countGone_any bc bo B k c2 a2 en eh eq r t m u p l' e _ n h s true D DM false cur 0 0 _ hk hC hL hM hR hwf (fun i hi => Or.inr (Or.inr (hE i hi)))).mono ?_
    rintro er w' ⟨g, rfl, g1, g0, hb⟩
    rw [g0 (by rintro ⟨i, hi, _, hx⟩; rw [(hE i hi).1] at hx; cases hx)]
    rw [show ((0 : Nat) : Int) = 0 from rfl]
    exact ⟨rfl, hb⟩
  · refine (zzLast_any _ _ _ _ n h _ hC.last hL.last hn hh).mono ?_
    rintro er w' ⟨rfl, hw⟩
    exact ⟨by rw [g1, g2], hw⟩

/-- The source that was current is remembered. -/
theorem out_move (I : EntInv en eh k D DM) (hrem : Remembered D cn ch cs D') (hk : k ≤ 65536) (hC : Ctr w bc r t m u p l' e mv' n h s true) (hL : Lst w mv' D') (hM : OwnM w bo DM) (hR : RowE w a2 k en eh eq B)
    (hwf : ∀ i, i < k → (Lit.int .u32 (en i)).wf = true ∧ (Lit.int .u8 (eh i)).wf = true) (hn : (Lit.int .u32 n).wf = true) (hh : (Lit.int .u8 h).wf = true) (hcn : (Lit.int .u32 cn).wf = true) (hch : (Lit.int .u8 ch).wf = true) (hne : ¬ (cn = n ∧ ch = h)) (hz : z = Maps.size DM) :
    Out w bc bo k c2 a2 (cn * 256 + ch) true n h (if Maps.has DM (k64 cn ch) = true ∨ 65536 ≤ z then z else z + 1) (if Maps.has DM (k64 cn ch) = false ∧ 65536 ≤ z then 1 else 0) (numAt D' (sk n h)) (Maps.has D' (sk n h)) ∧
    (Calls Trym.prog 14 #[.pointer (some ⟨bc, 0, none⟩), .int .u32 cn, .int .u8 ch] w fun er w' => er = .returned (.tuple #[.int .u32 cs, .bool true]) ∧ w' = w) ∧
    (Maps.has D' (sk n h) = true → Maps.has DM (k64 n h) = true ∧ numAt D' (sk n h) = numAt DM (k64 n h)) := by
  obtain ⟨fn, fh, RL⟩ := remLaw I hwf hcn hch hrem
  have ez : (65536 ≤ z) ↔ 65536 ≤ Maps.size DM := by rw [hz]; omega
  refine ⟨⟨?_, ?_, ?_⟩, ?_, fun hx => RL.other n h hn hh hx (fun ⟨x, y⟩ => hne ⟨x.symm, y.symm⟩)⟩
  · refine (zzLastLen_any _ _ _ _ _ hC.last hL.last).mono ?_
    rintro er w' ⟨rfl, hw⟩
    refine ⟨ret_int ?_, hw⟩
    rw [RL.size]
    by_cases c : Maps.has DM (k64 cn ch) = true ∨ 65536 ≤ Maps.size DM
    · rw [if_pos c, if_pos (by rw [ez]; exact c), hz]
    · rw [if_neg c, if_neg (by rw [ez]; exact c), hz]; omega
  · refine (countGone_any bc bo B k c2 a2 en eh eq r t m u p l' e _ n h s true D' DM true (cn * 256 + ch) fn fh _ hk hC hL hM hR hwf RL.each).mono ?_
    rintro er w' ⟨g, rfl, g1, g0, hb⟩
    refine ⟨?_, hb⟩
    by_cases c : Maps.has DM (k64 cn ch) = false ∧ 65536 ≤ Maps.size DM
    · rw [if_pos (by rw [ez]; exact c), g1 (RL.yes c.1 c.2)]
      rfl
    · rw [if_neg (by rw [ez]; exact c), g0 (RL.no c)]
      rfl
  · refine (zzLast_any _ _ _ _ n h _ hC.last hL.last hn hh).mono ?_
    rintro er w' ⟨rfl, hw⟩
    exact ⟨rfl, hw⟩
  · refine (zzLast_any _ _ _ _ cn ch _ hC.last hL.last hcn hch).mono ?_
    rintro er w' ⟨rfl, hw⟩
    exact ⟨by rw [RL.got.1, RL.got.2], hw⟩
end

theorem bytesStep_yes (a : Option Addr) (len cap : Nat) (nm : Bool) (r t m u p l e cn ch cs : Int) (hc : Bool) (v h s n : Int) (w : World) (hl : len ≤ 1048576) :
    Calls Trym.prog 6 #[stV a len cap nm r t m u p l e cn ch cs hc, .agg #[.int .u8 v, .int .u8 h, .int .u32 s, .int .u32 n]] w fun er w' => er = .returned (.bool true) ∧ Below w.heap.size w w' := by
  have hl' : (len : Int) ≤ 1048576 := by omega
  go_enter Trym.func6, Trym.ntmps6
  go_wp2
  go_ret
  exact ⟨rfl, ((Below.refl _ _).alloc (Nat.le_refl _) _).alloc (by simp) _⟩
theorem bytesStep_no (a : Option Addr) (len cap : Nat) (nm : Bool) (r t m u p l e cn ch cs : Int) (hc : Bool) (v h s n : Int) (w : World) (hl : 1048576 < len) (hm : len ≤ 9223372036854775807) :
    Calls Trym.prog 6 #[stV a len cap nm r t m u p l e cn ch cs hc, .agg #[.int .u8 v, .int .u8 h, .int .u32 s, .int .u32 n]] w fun er w' => er = .returned (.bool false) ∧ Below w.heap.size w w' := by
  have hl' : 1048576 < (len : Int) := by omega
  go_enter Trym.func6, Trym.ntmps6
  go_wp2
  go_ret
  exact ⟨rfl, ((Below.refl _ _).alloc (Nat.le_refl _) _).alloc (by simp) _⟩

theorem step_open (w : World) (o o2 : Obj) {w1 : World} (hb1 : Below ((w.alloc o).alloc o2).heap.size ((w.alloc o).alloc o2) w1) : Below w.heap.size w w1 :=
  (((Below.refl w.heap.size w).alloc (Nat.le_refl _) o).alloc (by simp) o2).trans (hb1.mono (by simp; omega))

set_option maxHeartbeats 1000000 in
set_option maxRecDepth 20000 in
theorem step_long (a : Option Addr) (len cap : Nat) (nm : Bool) (r t m u p l e cn ch cs : Int) (hc : Bool) (v h s n : Int) (w : World) (hl : 65536 < len) (hm : len ≤ 9223372036854775807) :
    Calls Trym.prog 3 #[stV a len cap nm r t m u p l e cn ch cs hc, .agg #[.int .u8 v, .int .u8 h, .int .u32 s, .int .u32 n]] w fun er w' => er = .returned (.bool true) ∧ Below w.heap.size w w' := by
  have h1 : (65536 : Int) < len := by omega
  have S0 := hide ((stB_made w (.slice a len cap) nm r t m u p l e cn ch cs hc).alloc (.cells #[.int .u8 v, .int .u8 h, .int .u32 s, .int .u32 n] 30))
  by_cases hb : len ≤ 1048576
  · go_enter Trym.func3, Trym.ntmps3
    go_wp2_with fail
    refine (bytesStep_yes a len cap nm r t m u p l e cn ch cs hc v h s n _ hb).mono ?_
    rintro er w1 ⟨rfl, hb1⟩
    have c0 := (S0.out.below hb1 (by simp; omega)).cells.1
    have B1 := hide (step_open w _ _ hb1)
    clear hb1 S0
    go_wp2
    go_ret
    exact ⟨rfl, B1.out⟩
  · go_enter Trym.func3, Trym.ntmps3
    go_wp2_with fail
    refine (bytesStep_no a len cap nm r t m u p l e cn ch cs hc v h s n _ (by omega) hm).mono ?_
    rintro er w1 ⟨rfl, hb1⟩
    have B1 := hide (step_open w _ _ hb1)
    clear hb1 S0
    go_wp2
    go_ret
    exact ⟨rfl, B1.out⟩

end Go.Proofs.Qxb6605559aMods
