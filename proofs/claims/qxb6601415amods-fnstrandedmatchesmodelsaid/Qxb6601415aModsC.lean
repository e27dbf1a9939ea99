import Derived.Test.Qxb6601415aModsB
import Derived.OwnWalk
import Derived.Below
namespace Go.Proofs.Qxb6601415aMods
open Go.RowKit
set_option linter.unusedVariables false

theorem zzB_yes (a : Option Addr) (len cap : Nat) (w : World) (h : len ≤ 1048576) : Calls Trym.prog 7 #[.slice a len cap] w fun e w' => e = .returned (.bool true) ∧ w' = w := by
  have hl' : (len : Int) ≤ 1048576 := by omega
  go_enter Trym.func7, Trym.ntmps7
  go_wp2
  go_ret
  exact ⟨rfl, rfl⟩
theorem zzB_no (a : Option Addr) (len cap : Nat) (w : World) (h : 1048576 < len) (hm : len ≤ 9223372036854775807) : Calls Trym.prog 7 #[.slice a len cap] w fun e w' => e = .returned (.bool false) ∧ w' = w := by
  have hl' : 1048576 < (len : Int) := by omega
  go_enter Trym.func7, Trym.ntmps7
  go_wp2
  go_ret
  exact ⟨rfl, rfl⟩

theorem info5 : (Trym.prog.info? 5).map (fun i => (i.zero, i.size, i.bytes)) = some (some (.int .u8 0), 1, 1) := by kernel_rfl

theorem make5 (len : Nat) (hlen : len ≤ 1048576) (w : World) : (Instr.makeSlice 22 (.int .i64 len) (.int .i64 len)).run Trym.prog w = .ok (.slice (some ⟨w.heap.size, 0, none⟩) len len) (w.alloc (.cells (madeCells #[.int .u8 0] len) 5)) := by
  obtain ⟨i, hi, hz0, hz1, hz2⟩ := info_parts info5
  have := run_make (P := Trym.prog) (w := w) 22 5 i _ Trym.underlying22 hi hz0 .i64 .i64 len len (by omega) (Int.le_refl _) (by rw [hz2]; omega) (by omega)
  simpa [hz1, Value.cells] using this

/-- What is laid behind k rounds. -/
def partB (dz : Nat → Int) (k j : Nat) : Value := if j < k then .int .u8 (dz j) else .int .u8 0

theorem partB_step {dz : Nat → Int} {B len k : Nat} {wr : World} (h : wr.rowIs B 5 len (partB dz k)) :
    (wr.setCell ⟨B, k, none⟩ (.int .u8 (dz k))).rowIs B 5 len (partB dz (k + 1)) := by
  refine (h.set k (.int .u8 (dz k))).congr (fun j hj => ?_)
  unfold partB
  by_cases h1 : j = k
  · subst h1; rw [if_pos rfl, if_pos (by omega)]
  · rw [if_neg h1]
    by_cases h2 : j < k
    · rw [if_pos h2, if_pos (by omega)]
    · rw [if_neg h2, if_neg (by omega)]

set_option maxHeartbeats 1000000 in
theorem clone_some (b off len cap : Nat) (dz : Nat → Int) (w : World) (hlen : len ≤ 1048576) (hb : b < w.heap.size)
    (hsrc : ∀ i, i < len → w.cell? ⟨b, off + i, none⟩ = some (.int .u8 (dz i))) :
    Calls Trym.prog 8 #[.slice (some ⟨b, off, none⟩) len cap] w fun er w' => er = .returned (.slice (some ⟨w.heap.size, 0, none⟩) len len) ∧ Row w' w.heap.size len dz ∧ Below w.heap.size w w' := by
  have hnil := fun W : World => Lib.run_eql_slice_nil (P := Trym.prog) W 22 5 (some ⟨b, off, none⟩) len cap 0 0 Trym.underlying22
  have hmk := make5 len hlen
  have H0 : Hid ((w.alloc (.cells (madeCells #[.int .u8 0] len) 5)).rowIs w.heap.size 5 len (partB dz 0)) := by
    have := World.rowIs_alloc w (madeCells #[.int .u8 0] len) 5 (partB dz 0) (fun i hi => by
      rw [size_madeCells] at hi
      unfold partB
      rw [if_neg (by omega)]
      unfold madeCells
      simp [hi, Nat.mod_one])
    rw [size_madeCells] at this
    exact this
  have HS := hide hsrc
  clear hsrc
  go_enter Trym.func8, Trym.ntmps8
  go_wp2
  go_loopw [4] (fun i wr => ∃ k : Nat, k ≤ len ∧ i = .int .i64 k ∧ wr.rowIs w.heap.size 5 len (partB dz k) ∧ Below w.heap.size w wr) (fun i _ => len - (intOf i).toNat)
  case atStart => exact ⟨0, Nat.zero_le _, rfl, H0.out, (Below.refl _ _).alloc (Nat.le_refl _) _⟩
  case round =>
    obtain ⟨k, hk, rfl, hrow, hbel⟩ := hrel
    by_cases hlt : k < len
    · have c0 : wr.cell? ⟨b, off + k, none⟩ = _ := (hbel.cell (p := ⟨b, off + k, none⟩) hb).trans (HS.out k hlt)
      have d0 := hrow.cell (i := k) (by omega)
      have fz := hrow.frozen
      have HR := hide (And.intro (partB_step hrow) (hbel.setCell (p := ⟨w.heap.size, k, none⟩) (Nat.le_refl _) (.int .u8 (dz k))))
      generalize partB dz k k = x0 at d0
      clear hrow hbel
      go_wp2
      go_roundw
      case rel => exact ⟨k + 1, by omega, by go_num, HR.out.1, HR.out.2⟩
      case measure => simp [intOf]; omega
    · have : k = len := by omega
      subst this
      go_wp2
      go_ret
      exact ⟨rfl, hrow.congr (fun i hi => by unfold partB; rw [if_pos hi]), hbel⟩

theorem clone_nil (w : World) : Calls Trym.prog 8 #[.slice none 0 0] w fun er w' => er = .returned (.slice none 0 0) ∧ w' = w := by
  have hnil := fun W : World => Lib.run_eql_slice_nil (P := Trym.prog) W 22 5 none 0 0 0 0 Trym.underlying22
  go_enter Trym.func8, Trym.ntmps8
  go_wp2
  go_ret
  exact ⟨rfl, rfl⟩

set_option maxHeartbeats 1000000 in
theorem beq_any (Ba Bb n ca cb : Nat) (f : Nat → Int) (w : World) (hn : n ≤ 1048576) (la : Ba < w.heap.size) (lb : Bb < w.heap.size)
    (h : ∀ i, i < n → w.cell? ⟨Ba, i, none⟩ = some (.int .u8 (f i)) ∧ w.cell? ⟨Bb, i, none⟩ = some (.int .u8 (f i))) :
    Calls Trym.prog 10 #[.slice (some ⟨Ba, 0, none⟩) n ca, .slice (some ⟨Bb, 0, none⟩) n cb] w fun e w' => e = .returned (.bool true) ∧ Below w.heap.size w w' := by
  have HC := hide h
  clear h
  go_enter Trym.func10, Trym.ntmps10
  go_wp2
  go_loopw [5] (fun i wr => ∃ k : Nat, k ≤ n ∧ i = .int .i64 k ∧ Below w.heap.size w wr) (fun i _ => n - (intOf i).toNat)
  case atStart => exact ⟨0, Nat.zero_le _, rfl, Below.refl _ _⟩
  case round =>
    obtain ⟨k, hk, rfl, hbel⟩ := hrel
    by_cases hlt : k < n
    · have c0 : wr.cell? ⟨Ba, k, none⟩ = _ := (hbel.cell (p := ⟨Ba, k, none⟩) la).trans (HC.out k hlt).1
      have c1 : wr.cell? ⟨Bb, k, none⟩ = _ := (hbel.cell (p := ⟨Bb, k, none⟩) lb).trans (HC.out k hlt).2
      have HB := hide hbel
      clear hbel
      go_wp2
      go_region
      all_goals
        go_wp2
        go_roundw
        case rel => exact ⟨k + 1, by omega, by go_num, HB.out.drew⟩
        case measure => simp [intOf]; omega
    · have : k = n := by omega
      subst this
      go_wp2
      go_ret
      exact ⟨rfl, hbel⟩

end Go.Proofs.Qxb6601415aMods
