import Derived.Test.Qxb6609509aModsG
namespace Go.Proofs.Qxb6609509aMods
open Go.RowKit
set_option linter.unusedVariables false

theorem nat13 : ∀ n : Fin 256, ((n.val &&& 13) &&& 13 = n.val &&& 13) ∧ ((n.val &&& 13 = 0) ↔ (n.val &&& 1 = 0 ∧ n.val &&& 4 = 0 ∧ n.val &&& 8 = 0)) := by decide +kernel

theorem and8 (op c : Int) (h0 : 0 ≤ op) (h1 : op ≤ 255) (c0 : 0 ≤ c) (c1 : c ≤ 255) : bits .and .u8 op c = ((op.toNat &&& c.toNat : Nat) : Int) := by
  rw [u8_and _ _ (by omega) (by omega) (by omega) (by omega)]

theorem bits13 (op : Int) (h0 : 0 ≤ op) (h1 : op ≤ 255) : bits .and .u8 (bits .and .u8 op 13) 13 = bits .and .u8 op 13 ∧ 0 ≤ bits .and .u8 op 13 ∧ (bits .and .u8 op 13 = 0 ↔ (bits .and .u8 op 1 = 0 ∧ bits .and .u8 op 4 = 0 ∧ bits .and .u8 op 8 = 0)) := by
  have hl : op.toNat &&& 13 ≤ 13 := Nat.and_le_right
  obtain ⟨k1, k2⟩ := nat13 ⟨op.toNat, by omega⟩
  have e : bits .and .u8 op 13 = ((op.toNat &&& 13 : Nat) : Int) := and8 op 13 h0 h1 (by omega) (by omega)
  refine ⟨?_, by omega, ?_⟩
  · rw [e, and8 _ _ (by omega) (by omega) (by omega) (by omega)]
    simp only [Int.toNat_natCast]
    exact congrArg (fun x : Nat => (x : Int)) k1
  · rw [e, and8 op 1 h0 h1 (by omega) (by omega), and8 op 4 h0 h1 (by omega) (by omega), and8 op 8 h0 h1 (by omega) (by omega)]
    simp only [show (1 : Int).toNat = 1 from rfl, show (4 : Int).toNat = 4 from rfl, show (8 : Int).toNat = 8 from rfl]
    simp only at k2
    omega

theorem writes_any (op : Int) (w : World) (wr : Bool) (h0 : 0 ≤ op) (h1 : op ≤ 255) (hwr : (bits .and .u8 op 13 == 0) = !wr) : Calls Trym.prog 12 #[.int .u8 op] w fun e w' => e = .returned (.bool wr) ∧ w' = w := by
  obtain ⟨_, _, k⟩ := bits13 op h0 h1
  generalize e1 : bits .and .u8 op 1 = x1 at k
  generalize e4 : bits .and .u8 op 4 = x4 at k
  generalize e8 : bits .and .u8 op 8 = x8 at k
  cases wr
  · have : bits .and .u8 op 13 = 0 := by simpa using hwr
    obtain ⟨rfl, rfl, rfl⟩ := k.1 this
    clear hwr this k
    go_enter Trym.func12, Trym.ntmps12
    go_wp2
    go_ret
    exact ⟨rfl, rfl⟩
  · have hne : ¬ bits .and .u8 op 13 = 0 := by simpa using hwr
    clear hwr
    by_cases f1 : x1 = 0
    · by_cases f4 : x4 = 0
      · have f8 : ¬ x8 = 0 := fun x => hne (k.2 ⟨f1, f4, x⟩)
        subst f1 f4
        have b8 : (x8 != 0) = true := by simpa using f8
        have B8 := hide b8
        clear hne k b8
        go_enter Trym.func12, Trym.ntmps12
        go_wp2
        go_ret
        exact ⟨congrArg (fun b => Ending.returned (.bool b)) B8.out, rfl⟩
      · have b4 : (x4 == 0) = false := by rw [beq_eq_false_iff_ne]; exact f4
        subst f1
        clear hne k
        go_enter Trym.func12, Trym.ntmps12
        go_wp2
        go_ret
        exact ⟨rfl, rfl⟩
    · have b1 : (x1 == 0) = false := by rw [beq_eq_false_iff_ne]; exact f1
      clear hne k
      go_enter Trym.func12, Trym.ntmps12
      go_wp2
      go_ret
      exact ⟨rfl, rfl⟩

theorem eq00 (W : World) : (binOp .eql 31 (.agg #[.int .u8 0, .int .u8 0, .string ⟨#[]⟩, .string ⟨#[]⟩]) (.agg #[.int .u8 0, .int .u8 0, .string ⟨#[]⟩, .string ⟨#[]⟩])).run Trym.prog W = .ok (.bool true) W := by kernel_rfl
theorem eq12 (W : World) : (binOp .eql 31 (.agg #[.int .u8 1, .int .u8 2, .string ⟨#[]⟩, .string ⟨#[]⟩]) (.agg #[.int .u8 1, .int .u8 2, .string ⟨#[]⟩, .string ⟨#[]⟩])).run Trym.prog W = .ok (.bool true) W := by kernel_rfl
theorem eq13 (W : World) : (binOp .eql 31 (.agg #[.int .u8 1, .int .u8 3, .string ⟨#[]⟩, .string ⟨#[]⟩]) (.agg #[.int .u8 1, .int .u8 3, .string ⟨#[]⟩, .string ⟨#[]⟩])).run Trym.prog W = .ok (.bool true) W := by kernel_rfl
theorem eq0c (W : World) : (binOp .eql 31 (.agg #[.int .u8 0, .int .u8 12, .string ⟨#[]⟩, .string ⟨#[]⟩]) (.agg #[.int .u8 0, .int .u8 12, .string ⟨#[]⟩, .string ⟨#[]⟩])).run Trym.prog W = .ok (.bool true) W := by kernel_rfl
theorem eq14 (W : World) : (binOp .eql 31 (.agg #[.int .u8 1, .int .u8 4, .string ⟨#[]⟩, .string ⟨#[]⟩]) (.agg #[.int .u8 1, .int .u8 4, .string ⟨#[]⟩, .string ⟨#[]⟩])).run Trym.prog W = .ok (.bool true) W := by kernel_rfl

end Go.Proofs.Qxb6609509aMods
