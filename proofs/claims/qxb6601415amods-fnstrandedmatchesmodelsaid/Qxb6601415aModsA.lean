import Derived.Test.Qxb6601415aModsProg
import Derived.WalkKit
import Derived.WalkSpells
import Derived.Deep.QuietTactic
import Derived.BigQuiet
import Derived.WalkSmall
import Derived.Deep.OwnRows
namespace Go.Proofs.Qxb6601415aMods
open Go.RowKit
set_option linter.unusedVariables false

theorem hide {p : Prop} (h : p) : Hid p := h

/-- Block bs is a scanner over the n bytes at block B. -/
def Scn (w : World) (bs B n c : Nat) (pos line : Nat) : Prop :=
  w.heap[bs]? = some (.cells #[.slice (some ⟨B, 0, none⟩) n c, .int .i64 pos, .int .i64 line] 63 (0, 0))
section
variable {w : World} {bs B n c pos line : Nat}
theorem Scn.lt (h : Scn w bs B n c pos line) : bs < w.heap.size := (Array.getElem?_eq_some_iff.1 h).1
theorem Scn.cells (h : Scn w bs B n c pos line) : w.cell? ⟨bs, 0, none⟩ = some (.slice (some ⟨B, 0, none⟩) n c) ∧ w.cell? ⟨bs, 1, none⟩ = some (.int .i64 pos) ∧ w.cell? ⟨bs, 2, none⟩ = some (.int .i64 line) := by
  unfold Scn at h; simp [World.cell?, h]
theorem Scn.frozen (h : Scn w bs B n c pos line) : ∀ o, w.frozen? ⟨bs, o, none⟩ = false := by
  intro o; unfold Scn at h; simp [World.frozen?, h]
end

theorem peek_end (bs B n c line : Nat) (w : World) (h : Scn w bs B n c n line) :
    Calls Trym.prog 39 #[.pointer (some ⟨bs, 0, none⟩)] w fun e w' => e = .returned (.tuple #[.int .u8 0, .bool false]) ∧ ∃ k, w' = w.drewN k := by
  obtain ⟨s0, s1, s2⟩ := h.cells
  clear h
  go_enter Trym.func39, Trym.ntmps39
  go_wp2
  go_quiet (fail)
  go_wp2
  go_ret2
  exact ⟨rfl, _, rfl⟩

theorem peek_crlf (bs B n c pos line : Nat) (w : World) (h : Scn w bs B n c pos line) (hn : n ≤ 1048576) (hp : pos + 1 < n) (d0 : w.cell? ⟨B, pos, none⟩ = some (.int .u8 13)) (d1 : w.cell? ⟨B, pos + 1, none⟩ = some (.int .u8 10)) :
    Calls Trym.prog 39 #[.pointer (some ⟨bs, 0, none⟩)] w fun e w' => e = .returned (.tuple #[.int .u8 10, .bool true]) ∧ ∃ k, w' = w.drewN k := by
  obtain ⟨s0, s1, s2⟩ := h.cells
  have e0 : ((pos : Int) == (n : Int)) = false := by rw [beq_eq_false_iff_ne]; omega
  have e1 : (pos : Int) < n := by omega
  have e2 : (pos : Int) + 1 < n := by omega
  clear h
  go_enter Trym.func39, Trym.ntmps39
  go_wp2
  go_quiet (fail)
  go_wp2
  go_quiet (fail)
  go_wp2
  go_ret2
  exact ⟨rfl, _, World.drewN_drewN _ _ _⟩

theorem peek_one (bs B n c pos line : Nat) (x : Int) (w : World) (h : Scn w bs B n c pos line) (hn : n ≤ 1048576) (hp : pos < n) (d0 : w.cell? ⟨B, pos, none⟩ = some (.int .u8 x)) (hx : (x == 13) = false) :
    Calls Trym.prog 39 #[.pointer (some ⟨bs, 0, none⟩)] w fun e w' => e = .returned (.tuple #[.int .u8 x, .bool true]) ∧ ∃ k, w' = w.drewN k := by
  obtain ⟨s0, s1, s2⟩ := h.cells
  have e0 : ((pos : Int) == (n : Int)) = false := by rw [beq_eq_false_iff_ne]; omega
  have e1 : (pos : Int) < n := by omega
  clear h
  go_enter Trym.func39, Trym.ntmps39
  go_wp2
  go_quiet (fail)
  go_wp2
  go_quiet (fail)
  go_wp2
  go_quiet (fail)
  go_wp2
  go_ret2
  exact ⟨rfl, _, by rw [World.drewN_drewN, World.drewN_drewN]⟩

theorem peek_last (bs B n c pos line : Nat) (x : Int) (w : World) (h : Scn w bs B n c pos line) (hn : n ≤ 1048576) (hp : pos < n) (d0 : w.cell? ⟨B, pos, none⟩ = some (.int .u8 x)) (hx : x = 13) (hl : pos + 1 = n) :
    Calls Trym.prog 39 #[.pointer (some ⟨bs, 0, none⟩)] w fun e w' => e = .returned (.tuple #[.int .u8 x, .bool true]) ∧ ∃ k, w' = w.drewN k := by
  obtain ⟨s0, s1, s2⟩ := h.cells
  have e0 : ((pos : Int) == (n : Int)) = false := by rw [beq_eq_false_iff_ne]; omega
  have e1 : (pos : Int) < n := by omega
  subst hx
  have e2 : decide ((pos : Int) + 1 < n) = false := by simp; omega
  clear h
  go_enter Trym.func39, Trym.ntmps39
  go_wp2
  go_quiet (fail)
  go_wp2
  go_quiet (fail)
  go_wp2
  go_quiet (fail)
  go_wp2
  go_ret2
  exact ⟨rfl, _, by rw [World.drewN_drewN, World.drewN_drewN]⟩

theorem peek_cr (bs B n c pos line : Nat) (x : Int) (w : World) (h : Scn w bs B n c pos line) (hn : n ≤ 1048576) (hp : pos < n) (d0 : w.cell? ⟨B, pos, none⟩ = some (.int .u8 x)) (hx : x = 13) (hl : pos + 1 < n) (y : Int) (d1 : w.cell? ⟨B, pos + 1, none⟩ = some (.int .u8 y)) (hy : (y == 10) = false) :
    Calls Trym.prog 39 #[.pointer (some ⟨bs, 0, none⟩)] w fun e w' => e = .returned (.tuple #[.int .u8 x, .bool true]) ∧ ∃ k, w' = w.drewN k := by
  obtain ⟨s0, s1, s2⟩ := h.cells
  have e0 : ((pos : Int) == (n : Int)) = false := by rw [beq_eq_false_iff_ne]; omega
  have e1 : (pos : Int) < n := by omega
  subst hx
  have e2 : (pos : Int) + 1 < n := by omega
  clear h
  go_enter Trym.func39, Trym.ntmps39
  go_wp2
  go_quiet (fail)
  go_wp2
  go_quiet (fail)
  go_wp2
  go_quiet (fail)
  go_wp2
  go_ret2
  exact ⟨rfl, _, by rw [World.drewN_drewN, World.drewN_drewN]⟩

end Go.Proofs.Qxb6601415aMods
