import Derived.Test.Qxb6605559aModsH
import Derived.Deep.OwnRows
namespace Go.Proofs.Qxb6605559aMods
open Go.RowKit Go.Maps
set_option linter.unusedVariables false

theorem info30 : (Trym.prog.info? 30).map (fun i => (i.zero, i.size, i.bytes)) = some (some (.agg #[.int .u8 0, .int .u8 0, .int .u32 0, .int .u32 0]), 4, 12) := by kernel_rfl

theorem make30 (len : Nat) (hlen : len ≤ 65536) (w : World) : (Instr.makeSlice 53 (.int .i64 len) (.int .i64 len)).run Trym.prog w = .ok (.slice (some ⟨w.heap.size, 0, none⟩) len len) (w.alloc (.cells (madeCells #[.int .u8 0, .int .u8 0, .int .u32 0, .int .u32 0] (len * 4)) 30)) := by
  obtain ⟨i, hi, hz0, hz1, hz2⟩ := info_parts info30
  have := run_make (P := Trym.prog) (w := w) 53 30 i _ Trym.underlying53 hi hz0 .i64 .i64 len len (by omega) (Int.le_refl _) (by rw [hz2]; omega) (by omega)
  simpa [hz1, Value.cells] using this

/-- A row of groups, cell by cell. -/
def cellG (gv gh gq gn : Nat → Int) (j : Nat) : Value :=
  if j % 4 = 0 then .int .u8 (gv (j / 4)) else if j % 4 = 1 then .int .u8 (gh (j / 4)) else if j % 4 = 2 then .int .u32 (gq (j / 4)) else .int .u32 (gn (j / 4))
theorem cellG0 (gv gh gq gn : Nat → Int) (k : Nat) : cellG gv gh gq gn (k * 4) = .int .u8 (gv k) := by unfold cellG; rw [if_pos (by omega), show k * 4 / 4 = k from by omega]
theorem cellG1 (gv gh gq gn : Nat → Int) (k : Nat) : cellG gv gh gq gn (k * 4 + 1) = .int .u8 (gh k) := by unfold cellG; rw [if_neg (by omega), if_pos (by omega), show (k * 4 + 1) / 4 = k from by omega]
theorem cellG2 (gv gh gq gn : Nat → Int) (k : Nat) : cellG gv gh gq gn (k * 4 + 2) = .int .u32 (gq k) := by unfold cellG; rw [if_neg (by omega), if_neg (by omega), if_pos (by omega), show (k * 4 + 2) / 4 = k from by omega]
theorem cellG3 (gv gh gq gn : Nat → Int) (k : Nat) : cellG gv gh gq gn (k * 4 + 3) = .int .u32 (gn k) := by unfold cellG; rw [if_neg (by omega), if_neg (by omega), if_neg (by omega), show (k * 4 + 3) / 4 = k from by omega]

/-- .. of which the first k are laid. -/
def partG (gv gh gq gn : Nat → Int) (k j : Nat) : Value := if j < k * 4 then cellG gv gh gq gn j else cellG (fun _ => 0) (fun _ => 0) (fun _ => 0) (fun _ => 0) j

theorem partG_step {gv gh gq gn : Nat → Int} {B len k : Nat} {wr : World} (h : wr.rowIs B 30 (len * 4) (partG gv gh gq gn k)) :
    ((((wr.setCell ⟨B, k * 4, none⟩ (.int .u8 (gv k))).setCell ⟨B, k * 4 + 1, none⟩ (.int .u8 (gh k))).setCell ⟨B, k * 4 + 2, none⟩ (.int .u32 (gq k))).setCell ⟨B, k * 4 + 3, none⟩ (.int .u32 (gn k))).rowIs B 30 (len * 4) (partG gv gh gq gn (k + 1)) := by
  refine ((((h.set (k * 4) _).set (k * 4 + 1) _).set (k * 4 + 2) _).set (k * 4 + 3) _).congr (fun j hj => ?_)
  unfold partG
  by_cases e3 : j = k * 4 + 3
  · rw [if_pos e3, if_pos (by omega), e3, cellG3]
  rw [if_neg e3]
  by_cases e2 : j = k * 4 + 2
  · rw [if_pos e2, if_pos (by omega), e2, cellG2]
  rw [if_neg e2]
  by_cases e1 : j = k * 4 + 1
  · rw [if_pos e1, if_pos (by omega), e1, cellG1]
  rw [if_neg e1]
  by_cases e0 : j = k * 4
  · rw [if_pos e0, if_pos (by omega), e0, cellG0]
  rw [if_neg e0]
  by_cases e : j < k * 4
  · rw [if_pos e, if_pos (by omega)]
  · rw [if_neg e, if_neg (by omega)]

theorem made_cell (n j : Nat) (hj : j < n) : (madeCells #[.int .u8 0, .int .u8 0, .int .u32 0, .int .u32 0] n)[j]? = some (cellG (fun _ => 0) (fun _ => 0) (fun _ => 0) (fun _ => 0) j) := by
  unfold madeCells cellG
  have h4 : j % 4 = 0 ∨ j % 4 = 1 ∨ j % 4 = 2 ∨ j % 4 = 3 := by omega
  rcases h4 with h | h | h | h <;> simp [hj, h]

set_option maxHeartbeats 1000000 in
theorem copyGroups_any (b off len cap : Nat) (gv gh gq gn : Nat → Int) (w : World) (hlen : len ≤ 65536) (hb : b < w.heap.size)
    (hsrc : ∀ i, i < len → w.cell? ⟨b, off + i * 4, none⟩ = some (.int .u8 (gv i)) ∧ w.cell? ⟨b, off + i * 4 + 1, none⟩ = some (.int .u8 (gh i)) ∧ w.cell? ⟨b, off + i * 4 + 2, none⟩ = some (.int .u32 (gq i)) ∧ w.cell? ⟨b, off + i * 4 + 3, none⟩ = some (.int .u32 (gn i))) :
    Calls Trym.prog 20 #[.slice (some ⟨b, off, none⟩) len cap] w fun er w' => er = .returned (.slice (some ⟨w.heap.size, 0, none⟩) len len) ∧ w'.rowIs w.heap.size 30 (len * 4) (cellG gv gh gq gn) ∧ Below w.heap.size w w' := by
  have hnil := fun W : World => Lib.run_eql_slice_nil (P := Trym.prog) W 53 30 (some ⟨b, off, none⟩) len cap 0 0 Trym.underlying53
  have hmk := make30 len hlen
  have H0 : Hid ((w.alloc (.cells (madeCells #[.int .u8 0, .int .u8 0, .int .u32 0, .int .u32 0] (len * 4)) 30)).rowIs w.heap.size 30 (len * 4) (partG gv gh gq gn 0)) := by
    have := World.rowIs_alloc w (madeCells #[.int .u8 0, .int .u8 0, .int .u32 0, .int .u32 0] (len * 4)) 30 (partG gv gh gq gn 0) (fun i hi => by
      rw [size_madeCells] at hi
      rw [made_cell _ _ hi]
      unfold partG
      rw [if_neg (by omega)])
    rw [size_madeCells] at this
    exact this
  have HS : Hid (∀ i, i < len → w.cell? ⟨b, off + i * 4, none⟩ = some (.int .u8 (gv i)) ∧ w.cell? ⟨b, off + i * 4 + 1, none⟩ = some (.int .u8 (gh i)) ∧ w.cell? ⟨b, off + i * 4 + 2, none⟩ = some (.int .u32 (gq i)) ∧ w.cell? ⟨b, off + i * 4 + 3, none⟩ = some (.int .u32 (gn i))) := hsrc
  clear hsrc
  go_enter Trym.func20, Trym.ntmps20
  go_wp2
  go_loopw [4] (fun i wr => ∃ k : Nat, k ≤ len ∧ i = .int .i64 k ∧ wr.rowIs w.heap.size 30 (len * 4) (partG gv gh gq gn k) ∧ Below w.heap.size w wr) (fun i _ => len - (intOf i).toNat)
  case atStart => exact ⟨0, Nat.zero_le _, rfl, H0.out, (Below.refl _ _).alloc (Nat.le_refl _) _⟩
  case round =>
    obtain ⟨k, hk, rfl, hrow, hbel⟩ := hrel
    by_cases hlt : k < len
    · obtain ⟨s0, s1, s2, s3⟩ := HS.out k hlt
      have c0 : wr.cell? ⟨b, off + k * 4, none⟩ = _ := (hbel.cell (p := ⟨b, off + k * 4, none⟩) hb).trans s0
      have c1 : wr.cell? ⟨b, off + k * 4 + 1, none⟩ = _ := (hbel.cell (p := ⟨b, off + k * 4 + 1, none⟩) hb).trans s1
      have c2 : wr.cell? ⟨b, off + k * 4 + 2, none⟩ = _ := (hbel.cell (p := ⟨b, off + k * 4 + 2, none⟩) hb).trans s2
      have c3 : wr.cell? ⟨b, off + k * 4 + 3, none⟩ = _ := (hbel.cell (p := ⟨b, off + k * 4 + 3, none⟩) hb).trans s3
      have d0 := hrow.cell (i := k * 4) (by omega)
      have d1 := hrow.cell (i := k * 4 + 1) (by omega)
      have d2 := hrow.cell (i := k * 4 + 2) (by omega)
      have d3 := hrow.cell (i := k * 4 + 3) (by omega)
      have fz := hrow.frozen
      have R := partG_step hrow
      have B1 := (((hbel.setCell (p := ⟨w.heap.size, k * 4, none⟩) (Nat.le_refl _) (.int .u8 (gv k))).setCell (p := ⟨w.heap.size, k * 4 + 1, none⟩) (Nat.le_refl _) (.int .u8 (gh k))).setCell (p := ⟨w.heap.size, k * 4 + 2, none⟩) (Nat.le_refl _) (.int .u32 (gq k))).setCell (p := ⟨w.heap.size, k * 4 + 3, none⟩) (Nat.le_refl _) (.int .u32 (gn k))
      generalize partG gv gh gq gn k (k * 4) = x0 at d0
      generalize partG gv gh gq gn k (k * 4 + 1) = x1 at d1
      generalize partG gv gh gq gn k (k * 4 + 2) = x2 at d2
      generalize partG gv gh gq gn k (k * 4 + 3) = x3 at d3
      have HR : Hid (_ ∧ _) := ⟨R, B1⟩
      clear hrow hbel s0 s1 s2 s3 R B1
      go_wp2
      go_roundw
      case rel => exact ⟨k + 1, by omega, by go_num, HR.out.1, HR.out.2⟩
      case measure => simp [intOf]; omega
    · have : k = len := by omega
      subst this
      go_wp2
      go_ret
      exact ⟨rfl, hrow.congr (fun i hi => by unfold partG; rw [if_pos hi]), hbel⟩

/-- nil stays nil. -/
theorem copyGroups_nil (w : World) : Calls Trym.prog 20 #[.slice none 0 0] w fun er w' => er = .returned (.slice none 0 0) ∧ w' = w := by
  have hnil := fun W : World => Lib.run_eql_slice_nil (P := Trym.prog) W 53 30 none 0 0 0 0 Trym.underlying53
  go_enter Trym.func20, Trym.ntmps20
  go_wp2
  go_ret
  exact ⟨rfl, rfl⟩

end Go.Proofs.Qxb6605559aMods
