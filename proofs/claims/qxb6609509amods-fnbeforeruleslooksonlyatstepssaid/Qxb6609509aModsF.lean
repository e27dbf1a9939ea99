import Derived.Test.Qxb6609509aModsE
namespace Go.Proofs.Qxb6609509aMods
open Go.RowKit
set_option linter.unusedVariables false

/-- Block b is a Decision that is being made. -/
def DecB (w : World) (b : Nat) : Prop := w.heap[b]? = some (.cells #[.int .u8 0, .int .u8 0, .string ⟨#[]⟩, .string ⟨#[]⟩] 31 (0, 0))
theorem DecB.cells {w : World} {b : Nat} (h : DecB w b) : w.cell? ⟨b, 0, none⟩ = some (.int .u8 0) ∧ w.cell? ⟨b, 1, none⟩ = some (.int .u8 0) ∧ w.cell? ⟨b, 2, none⟩ = some (.string ⟨#[]⟩) ∧ w.cell? ⟨b, 3, none⟩ = some (.string ⟨#[]⟩) := by
  unfold DecB at h; simp [World.cell?, h]
theorem DecB.frozen {w : World} {b : Nat} (h : DecB w b) : ∀ o, w.frozen? ⟨b, o, none⟩ = false := by
  intro o; unfold DecB at h; simp [World.frozen?, h]

theorem decB_made (w : World) (a c d : Obj) : DecB ((((w.alloc a).alloc (.cells #[.int .u8 0, .int .u8 0, .string ⟨#[]⟩, .string ⟨#[]⟩] 31)).alloc c).alloc d) (w.heap.size + 1) := by
  show ((((w.heap.push _).push _).push _).push _)[w.heap.size + 1]? = _
  simp [Array.getElem_push]

set_option maxHeartbeats 1000000 in
theorem br11 (nd rc un wr ap : Bool) (u md : ByteArray) (g : Option Addr) (len cap : Nat) (op y kd dn bd dr : Int) (w : World) (hy : bits .and .u8 op 13 = y) (hwr : (y == 0) = !wr) :
    Calls Trym.prog 11 #[.bool nd, .bool un, .agg #[.string u, .slice g len cap, .bool rc], .string md, .int .u8 op, .int .u8 kd, .bool ap, .int .u8 dn, .int .u8 bd, .int .u8 dr] w fun e w' =>
      e = .returned (.tuple #[decV (decA nd rc un wr ap) (decR nd rc un wr ap), .bool (decO nd rc un wr ap)]) ∧ Below w.heap.size w w' := by
  obtain ⟨A, hA⟩ : ∃ A, A = decA nd rc un wr ap := ⟨_, rfl⟩
  obtain ⟨R, hR⟩ : ∃ R, R = decR nd rc un wr ap := ⟨_, rfl⟩
  obtain ⟨O, hO⟩ : ∃ O, O = decO nd rc un wr ap := ⟨_, rfl⟩
  have key := fun bp bq w p0 p11 q1 q6 lp lq => br16 nd rc un wr ap u g len cap bp bq op y w hy hwr p0 p11 q1 q6 lp lq
  rw [← hA, ← hR, ← hO] at key ⊢
  have KY := hide key
  clear key hA hR hO hy hwr
  go_enter Trym.func11, Trym.ntmps11
  go_wp2_with fail
  refine (KY.out _ _ _ ?x0 ?x1 ?x2 ?x3 ?x4 ?x5).mono ?_
  case x0 => simp [go_sem]
  case x1 => simp [go_sem]
  case x2 => simp [go_sem]
  case x3 => simp [go_sem]
  case x4 => simp
  case x5 => simp
  rintro er w1 ⟨rfl, hb⟩
  have D1 : DecB w1 (w.heap.size + 1) := (hb.block (w.heap.size + 1) (by simp)).trans (decB_made w _ _ _)
  have B1 := hide (Below.trans (((((Below.refl w.heap.size w).alloc (Nat.le_refl _) _).alloc (by simp) _).alloc (by simp; omega) _).alloc (by simp; omega) _) (hb.mono (by simp; omega)))
  obtain ⟨c0, c1, c2, c3⟩ := D1.cells
  have fz := D1.frozen
  clear hb D1
  unfold decV
  go_wp2
  exact bodyPost_ret (v := .tuple #[decV A R, .bool O]) (by simp [results, Trym.results11, go_sem, decV, c0, c1, c2, c3]) rfl ⟨rfl, (((B1.out.setCell (p := ⟨w.heap.size + 1, 0, none⟩) (by simp) _).setCell (p := ⟨w.heap.size + 1, 1, none⟩) (by simp) _).setCell (p := ⟨w.heap.size + 1, 2, none⟩) (by simp) _).setCell (p := ⟨w.heap.size + 1, 3, none⟩) (by simp) _⟩
end Go.Proofs.Qxb6609509aMods
