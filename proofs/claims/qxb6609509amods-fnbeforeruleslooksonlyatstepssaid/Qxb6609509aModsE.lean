import Derived.Test.Qxb6609509aModsA
import Derived.Below
namespace Go.Proofs.Qxb6609509aMods
open Go.RowKit
set_option linter.unusedVariables false

theorem hide {p : Prop} (h : p) : Hid p := h

/-- A Decision without names. -/
def decV (a r : Int) : Value := .agg #[.int .u8 a, .int .u8 r, .string ⟨#[]⟩, .string ⟨#[]⟩]
def decA (nd rc un wr ap : Bool) : Int := if nd then 1 else if rc then 1 else if un && wr then 0 else if ap then 1 else 0
def decR (nd rc un wr ap : Bool) : Int := if nd then 2 else if rc then 3 else if un && wr then 12 else if ap then 4 else 0
def decO (nd rc un wr ap : Bool) : Bool := nd || rc || (un && wr) || ap

set_option maxHeartbeats 1000000 in
theorem br16 (nd rc un wr ap : Bool) (u : ByteArray) (g : Option Addr) (len cap bp bq : Nat) (op y : Int) (w : World) (hy : bits .and .u8 op 13 = y) (hwr : (y == 0) = !wr)
    (p0 : w.cell? ⟨bp, 0, none⟩ = some (.bool nd)) (p11 : w.cell? ⟨bp, 11, none⟩ = some (.bool un)) (q1 : w.cell? ⟨bq, 1, none⟩ = some (.int .u8 op)) (q6 : w.cell? ⟨bq, 6, none⟩ = some (.bool ap)) (lp : bp < w.heap.size) (lq : bq < w.heap.size) :
    Calls Trym.prog 16 #[.pointer (some ⟨bp, 0, none⟩), .agg #[.string u, .slice g len cap, .bool rc], .pointer (some ⟨bq, 0, none⟩)] w fun e w' => e = .returned (.tuple #[decV (decA nd rc un wr ap) (decR nd rc un wr ap), .bool (decO nd rc un wr ap)]) ∧ Below w.heap.size w w' := by
  cases nd
  · cases rc
    · cases un
      · cases ap
        · go_enter Trym.func16, Trym.ntmps16
          go_wp2
          exact bodyPost_ret (v := .tuple #[decV _ _, .bool _]) (by simp [results, Trym.results16, go_sem, decV]; first | done | exact ⟨⟨rfl, rfl⟩, rfl⟩ | rfl) rfl ⟨rfl, ((Below.refl _ _).alloc (Nat.le_refl _) _).alloc (by simp) _⟩
        · go_enter Trym.func16, Trym.ntmps16
          go_wp2
          exact bodyPost_ret (v := .tuple #[decV _ _, .bool _]) (by simp [results, Trym.results16, go_sem, decV]; first | done | exact ⟨⟨rfl, rfl⟩, rfl⟩ | rfl) rfl ⟨rfl, ((Below.refl _ _).alloc (Nat.le_refl _) _).alloc (by simp) _⟩
      · cases wr
        · have y0 : y = 0 := by simpa using hwr
          rw [y0] at hy
          clear hwr y0
          cases ap
          · go_enter Trym.func16, Trym.ntmps16
            go_wp2
            exact bodyPost_ret (v := .tuple #[decV _ _, .bool _]) (by simp [results, Trym.results16, go_sem, decV]; first | done | exact ⟨⟨rfl, rfl⟩, rfl⟩ | rfl) rfl ⟨rfl, ((Below.refl _ _).alloc (Nat.le_refl _) _).alloc (by simp) _⟩
          · go_enter Trym.func16, Trym.ntmps16
            go_wp2
            exact bodyPost_ret (v := .tuple #[decV _ _, .bool _]) (by simp [results, Trym.results16, go_sem, decV]; first | done | exact ⟨⟨rfl, rfl⟩, rfl⟩ | rfl) rfl ⟨rfl, ((Below.refl _ _).alloc (Nat.le_refl _) _).alloc (by simp) _⟩
        · have y0 : (y == 0) = false := hwr
          clear hwr
          go_enter Trym.func16, Trym.ntmps16
          go_wp2
          exact bodyPost_ret (v := .tuple #[decV _ _, .bool _]) (by simp [results, Trym.results16, go_sem, decV]; first | done | exact ⟨⟨rfl, rfl⟩, rfl⟩ | rfl) rfl ⟨rfl, ((Below.refl _ _).alloc (Nat.le_refl _) _).alloc (by simp) _⟩
    · go_enter Trym.func16, Trym.ntmps16
      go_wp2
      exact bodyPost_ret (v := .tuple #[decV _ _, .bool _]) (by simp [results, Trym.results16, go_sem, decV]; first | done | exact ⟨⟨rfl, rfl⟩, rfl⟩ | rfl) rfl ⟨rfl, ((Below.refl _ _).alloc (Nat.le_refl _) _).alloc (by simp) _⟩
  · go_enter Trym.func16, Trym.ntmps16
    go_wp2
    exact bodyPost_ret (v := .tuple #[decV _ _, .bool _]) (by simp [results, Trym.results16, go_sem, decV]; first | done | exact ⟨⟨rfl, rfl⟩, rfl⟩ | rfl) rfl ⟨rfl, ((Below.refl _ _).alloc (Nat.le_refl _) _).alloc (by simp) _⟩

end Go.Proofs.Qxb6609509aMods
