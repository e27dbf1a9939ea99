import Derived.Test.Qxb6605559aModsT1
namespace Go.Proofs.Qxb6605559aMods
open Go.RowKit Go.Maps
set_option linter.unusedVariables false

/-- Block b is a State. -/
def StB (w : World) (b : Nat) (v : Value) (nm : Bool) (r t m u p l e cn ch cs : Int) (hc : Bool) : Prop :=
  w.heap[b]? = some (.cells #[v, .bool nm, .int .u64 r, .int .u64 t, .int .u64 m, .int .u64 u, .int .u64 p, .int .u64 l, .int .u64 e, .int .u32 cn, .int .u8 ch, .int .u32 cs, .bool hc] 28 (0, 0))
section
variable {w : World} {b : Nat} {v : Value} {nm : Bool} {r t m u p l e cn ch cs : Int} {hc : Bool}
theorem StB.lt (h : StB w b v nm r t m u p l e cn ch cs hc) : b < w.heap.size := (Array.getElem?_eq_some_iff.1 h).1
theorem StB.frozen (h : StB w b v nm r t m u p l e cn ch cs hc) : ∀ o, w.frozen? ⟨b, o, none⟩ = false := by
  intro o; unfold StB at h; simp [World.frozen?, h]
theorem StB.cells (h : StB w b v nm r t m u p l e cn ch cs hc) : w.cell? ⟨b, 0, none⟩ = some v ∧ w.cell? ⟨b, 1, none⟩ = some (.bool nm) ∧ w.cell? ⟨b, 2, none⟩ = some (.int .u64 r) ∧ w.cell? ⟨b, 3, none⟩ = some (.int .u64 t) ∧ w.cell? ⟨b, 4, none⟩ = some (.int .u64 m) ∧ w.cell? ⟨b, 5, none⟩ = some (.int .u64 u) ∧
    w.cell? ⟨b, 6, none⟩ = some (.int .u64 p) ∧ w.cell? ⟨b, 7, none⟩ = some (.int .u64 l) ∧ w.cell? ⟨b, 8, none⟩ = some (.int .u64 e) ∧ w.cell? ⟨b, 9, none⟩ = some (.int .u32 cn) ∧ w.cell? ⟨b, 10, none⟩ = some (.int .u8 ch) ∧ w.cell? ⟨b, 11, none⟩ = some (.int .u32 cs) ∧ w.cell? ⟨b, 12, none⟩ = some (.bool hc) := by
  unfold StB at h; simp [World.cell?, h]
theorem StB.same {w' : World} (h : StB w b v nm r t m u p l e cn ch cs hc) (hb : w'.heap[b]? = w.heap[b]?) : StB w' b v nm r t m u p l e cn ch cs hc := hb.trans h
theorem StB.set0 (h : StB w b v nm r t m u p l e cn ch cs hc) (x : Value) : StB (w.setCell ⟨b, 0, none⟩ x) b x nm r t m u p l e cn ch cs hc := by
  unfold StB at h ⊢; simp [World.setCell, Array.getElem?_modify, h]
theorem StB.below {B : Nat} {w' : World} (h : StB w b v nm r t m u p l e cn ch cs hc) (hb : Below B w w') (hB : b < B) : StB w' b v nm r t m u p l e cn ch cs hc := h.same (hb.block b hB)
theorem StB.kp {w' : World} {S : Nat → Prop} (h : StB w b v nm r t m u p l e cn ch cs hc) (hk : Kp w w' S) (hS : ¬ S b) : StB w' b v nm r t m u p l e cn ch cs hc := h.same (hk.block b h.lt hS)
end
theorem stB_made (w : World) (v : Value) (nm : Bool) (r t m u p l e cn ch cs : Int) (hc : Bool) : StB (w.alloc (.cells #[v, .bool nm, .int .u64 r, .int .u64 t, .int .u64 m, .int .u64 u, .int .u64 p, .int .u64 l, .int .u64 e, .int .u32 cn, .int .u8 ch, .int .u32 cs, .bool hc] 28)) w.heap.size v nm r t m u p l e cn ch cs hc :=
  (MapKept.heap_alloc w _).1

theorem SrcE.below {w w' : World} {a : Option Addr} {len cap : Nat} {en eh eq : Nat → Int} (h : SrcE w a len cap en eh eq) (hb : Below w.heap.size w w') : SrcE w' a len cap en eh eq := by
  rcases h with h | h | ⟨b, off, rfl, hlt, hc⟩
  · exact Or.inl h
  · exact Or.inr (Or.inl h)
  · refine Or.inr (Or.inr ⟨b, off, rfl, by have := hb.size; omega, fun i hi => ?_⟩)
    obtain ⟨x, y, z⟩ := hc i hi
    exact ⟨(hb.cell (p := ⟨b, _, none⟩) hlt).trans x, (hb.cell (p := ⟨b, _, none⟩) hlt).trans y, (hb.cell (p := ⟨b, _, none⟩) hlt).trans z⟩

theorem Kp.rowE {w w' : World} {S : Nat → Prop} (hk : Kp w w' S) {a : Option Addr} {len B : Nat} {en eh eq : Nat → Int} (h : RowE w a len en eh eq B) (hS : ¬ S B) : RowE w' a len en eh eq B := by
  rcases h with h | ⟨h1, h2⟩
  · exact Or.inl h
  · exact Or.inr ⟨h1, hk.row h2 hS⟩

theorem bytesRem_yes (a : Option Addr) (len cap : Nat) (nm : Bool) (r t m u p l e cn ch cs : Int) (hc : Bool) (n h s : Int) (w : World) (hl : len ≤ 1048576) :
    Calls Trym.prog 21 #[stV a len cap nm r t m u p l e cn ch cs hc, .int .u32 n, .int .u8 h, .int .u32 s] w fun er w' => er = .returned (.bool true) ∧ Below w.heap.size w w' := by
  have hl' : (len : Int) ≤ 1048576 := by omega
  go_enter Trym.func21, Trym.ntmps21
  go_wp2
  go_ret
  exact ⟨rfl, (Below.refl _ _).alloc (Nat.le_refl _) _⟩
theorem bytesRem_no (a : Option Addr) (len cap : Nat) (nm : Bool) (r t m u p l e cn ch cs : Int) (hc : Bool) (n h s : Int) (w : World) (hl : 1048576 < len) (hm : len ≤ 9223372036854775807) :
    Calls Trym.prog 21 #[stV a len cap nm r t m u p l e cn ch cs hc, .int .u32 n, .int .u8 h, .int .u32 s] w fun er w' => er = .returned (.bool false) ∧ Below w.heap.size w w' := by
  have hl' : 1048576 < (len : Int) := by omega
  go_enter Trym.func21, Trym.ntmps21
  go_wp2
  go_ret
  exact ⟨rfl, (Below.refl _ _).alloc (Nat.le_refl _) _⟩

set_option maxHeartbeats 1000000 in
theorem rem_long (a : Option Addr) (len cap : Nat) (nm : Bool) (r t m u p l e cn ch cs : Int) (hc : Bool) (n h s : Int) (w : World) (hl : 65536 < len) (hm : len ≤ 9223372036854775807) :
    Calls Trym.prog 5 #[stV a len cap nm r t m u p l e cn ch cs hc, .int .u32 n, .int .u8 h, .int .u32 s] w fun er w' => er = .returned (.bool true) ∧ Below w.heap.size w w' := by
  have h1 : (65536 : Int) < len := by omega
  have S0 := hide (stB_made w (.slice a len cap) nm r t m u p l e cn ch cs hc)
  by_cases hb : len ≤ 1048576
  · go_enter Trym.func5, Trym.ntmps5
    go_wp2_with fail
    refine (bytesRem_yes a len cap nm r t m u p l e cn ch cs hc n h s _ hb).mono ?_
    rintro er w1 ⟨rfl, hb1⟩
    have c0 := (S0.out.below hb1 (by simp)).cells.1
    have B1 := hide (((Below.refl w.heap.size w).alloc (Nat.le_refl _) (.cells #[.slice a len cap, .bool nm, .int .u64 r, .int .u64 t, .int .u64 m, .int .u64 u, .int .u64 p, .int .u64 l, .int .u64 e, .int .u32 cn, .int .u8 ch, .int .u32 cs, .bool hc] 28)).trans (hb1.mono (by simp)))
    clear hb1 S0
    go_wp2
    go_ret
    exact ⟨rfl, B1.out⟩
  · go_enter Trym.func5, Trym.ntmps5
    go_wp2_with fail
    refine (bytesRem_no a len cap nm r t m u p l e cn ch cs hc n h s _ (by omega) hm).mono ?_
    rintro er w1 ⟨rfl, hb1⟩
    have B1 := hide (((Below.refl w.heap.size w).alloc (Nat.le_refl _) (.cells #[.slice a len cap, .bool nm, .int .u64 r, .int .u64 t, .int .u64 m, .int .u64 u, .int .u64 p, .int .u64 l, .int .u64 e, .int .u32 cn, .int .u8 ch, .int .u32 cs, .bool hc] 28)).trans (hb1.mono (by simp)))
    clear hb1 S0
    go_wp2
    go_ret
    exact ⟨rfl, B1.out⟩

end Go.Proofs.Qxb6605559aMods
