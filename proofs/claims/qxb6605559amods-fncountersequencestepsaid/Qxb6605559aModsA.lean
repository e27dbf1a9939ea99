import Derived.Test.Qxb6605559aModsProg
import Derived.WalkKit
import Derived.WalkSpells
import Derived.Deep.QuietTactic
import Derived.BigQuiet
import Derived.WalkSmall
namespace Go.Proofs.Qxb6605559aMods
open Go.RowKit
set_option linter.unusedVariables false

theorem or_key (n h : Int) (n0 : 0 ≤ n) (n1 : n ≤ 4294967295) (h0 : 0 ≤ h) (h1 : h ≤ 255) : bits .or .u64 (n * 256) h = n * 256 + h := by
  rw [u64_or _ _ (by omega) (by omega) (by omega) (by omega), nat_join 8 _ _ (by omega) (by omega)]
  omega

theorem ret_int {k : IntKind} {a b : Int} (h : a = b) : Ending.returned (.int k a) = .returned (.int k b) := by rw [h]

set_option maxHeartbeats 400000 in
theorem key_any (n h : Int) (w : World) (n0 : 0 ≤ n) (n1 : n ≤ 4294967295) (h0 : 0 ≤ h) (h1 : h ≤ 255) :
    Calls Trym.prog 9 #[.int .u32 n, .int .u8 h] w fun e w' => e = .returned (.int .u64 (n * 256 + h)) ∧ w' = w := by
  go_enter Trym.func9, Trym.ntmps9
  go_wp2
  go_ret
  exact ⟨ret_int (or_key n h n0 n1 h0 h1), rfl⟩

/-- How many numbers lie between a and b on the ring of 2^22. -/
def lostF (a b : Int) : Int := if (b - a) % 4194304 = 0 ∨ 2097152 < (b - a) % 4194304 then 0 else (b - a) % 4194304 - 1

theorem and_ring (x : Int) (h0 : 0 ≤ x) (h1 : x < 4294967296) : bits .and .u32 x 4194303 = x % 4194304 := by
  rw [u32_and _ _ (by omega) (by omega) (by omega) (by omega)]
  rw [show (4194303 : Int).toNat = 4194303 from rfl, nat_mask22]
  omega

set_option maxHeartbeats 400000 in
theorem lost_any (a b : Int) (w : World) (a0 : 0 ≤ a) (a1 : a ≤ 4294967295) (b0 : 0 ≤ b) (b1 : b ≤ 4294967295) :
    Calls Trym.prog 30 #[.int .u32 a, .int .u32 b] w fun e w' => e = .returned (.int .u32 (lostF a b)) ∧ w' = w := by
  have e1 := and_ring ((b - a) % 4294967296) (by omega) (by omega)
  have e2 : (b - a) % 4294967296 % 4194304 = (b - a) % 4194304 := by omega
  rw [e2] at e1
  go_enter Trym.func30, Trym.ntmps30
  go_wp2
  all_goals (go_ret; refine ⟨ret_int ?_, rfl⟩; unfold lostF; (try simp only [beq_iff_eq, beq_eq_false_iff_ne, ne_eq] at *); split <;> omega)

set_option maxHeartbeats 400000 in
theorem lostModel_any (a b : Int) (w : World) (a0 : 0 ≤ a) (a1 : a ≤ 4294967295) (b0 : 0 ≤ b) (b1 : b ≤ 4294967295) :
    Calls Trym.prog 16 #[.int .u32 a, .int .u32 b] w fun e w' => e = .returned (.int .u64 (lostF a b)) ∧ w' = w := by
  go_enter Trym.func16, Trym.ntmps16
  go_wp2
  all_goals (go_ret; refine ⟨ret_int ?_, rfl⟩; unfold lostF; (try simp only [beq_iff_eq, beq_eq_false_iff_ne, ne_eq] at *); split <;> omega)

theorem bytesRun_any (a : Option Addr) (len cap : Nat) (w : World) (h : len ≤ 9223372036854775807) :
    Calls Trym.prog 19 #[.slice a len cap] w fun e w' => e = .returned (.bool (decide ((len : Int) ≤ 1048576))) ∧ w' = w := by
  go_enter Trym.func19, Trym.ntmps19
  go_wp2
  all_goals (go_ret; exact ⟨by simp; omega, rfl⟩)

theorem header_any (v h s n : Int) (w : World) :
    Calls Trym.prog 11 #[.agg #[.int .u8 v, .int .u8 h, .int .u32 s, .int .u32 n]] w fun e w' =>
      e = .returned (.agg #[.int .u8 v, .int .u8 h, .int .u32 s, .int .u32 n]) ∧ Below w.heap.size w w' := by
  go_enter Trym.func11, Trym.ntmps11
  go_wp2
  exact bodyPost_ret (v := .agg #[.int .u8 v, .int .u8 h, .int .u32 s, .int .u32 n]) (by simp [results, Trym.results11, go_sem]) rfl ⟨rfl, ((Below.refl _ _).alloc (Nat.le_refl _) _).alloc (by simp) _⟩

/-- Block b is a Counter. -/
def Ctr (w : World) (b : Nat) (r t m u p l e : Int) (mv : Value) (nd hw sq : Int) (hc : Bool) : Prop :=
  w.heap[b]? = some (.cells #[.int .u64 r, .int .u64 t, .int .u64 m, .int .u64 u, .int .u64 p, .int .u64 l, .int .u64 e, mv, .int .u32 nd, .int .u8 hw, .int .u32 sq, .bool hc] 60 (0, 0))

section
variable {w : World} {b : Nat} {r t m u p l e : Int} {mv : Value} {nd hw sq : Int} {hc : Bool}
theorem Ctr.lt (h : Ctr w b r t m u p l e mv nd hw sq hc) : b < w.heap.size := (Array.getElem?_eq_some_iff.1 h).1
theorem Ctr.frozen (h : Ctr w b r t m u p l e mv nd hw sq hc) : ∀ o, w.frozen? ⟨b, o, none⟩ = false := by
  intro o; unfold Ctr at h; simp [World.frozen?, h]
theorem Ctr.stats (h : Ctr w b r t m u p l e mv nd hw sq hc) : w.cell? ⟨b, 0, none⟩ = some (.int .u64 r) ∧ w.cell? ⟨b, 1, none⟩ = some (.int .u64 t) ∧ w.cell? ⟨b, 2, none⟩ = some (.int .u64 m) ∧ w.cell? ⟨b, 3, none⟩ = some (.int .u64 u) ∧ w.cell? ⟨b, 4, none⟩ = some (.int .u64 p) ∧ w.cell? ⟨b, 5, none⟩ = some (.int .u64 l) ∧ w.cell? ⟨b, 6, none⟩ = some (.int .u64 e) := by
  unfold Ctr at h; simp [World.cell?, h]
theorem Ctr.lost (h : Ctr w b r t m u p l e mv nd hw sq hc) : w.cell? ⟨b, 5, none⟩ = some (.int .u64 l) := h.stats.2.2.2.2.2.1
theorem Ctr.last (h : Ctr w b r t m u p l e mv nd hw sq hc) : w.cell? ⟨b, 7, none⟩ = some mv := by unfold Ctr at h; simp [World.cell?, h]
theorem Ctr.node (h : Ctr w b r t m u p l e mv nd hw sq hc) : w.cell? ⟨b, 8, none⟩ = some (.int .u32 nd) := by unfold Ctr at h; simp [World.cell?, h]
theorem Ctr.hwid (h : Ctr w b r t m u p l e mv nd hw sq hc) : w.cell? ⟨b, 9, none⟩ = some (.int .u8 hw) := by unfold Ctr at h; simp [World.cell?, h]
theorem Ctr.seq (h : Ctr w b r t m u p l e mv nd hw sq hc) : w.cell? ⟨b, 10, none⟩ = some (.int .u32 sq) := by unfold Ctr at h; simp [World.cell?, h]
theorem Ctr.has (h : Ctr w b r t m u p l e mv nd hw sq hc) : w.cell? ⟨b, 11, none⟩ = some (.bool hc) := by unfold Ctr at h; simp [World.cell?, h]
theorem Ctr.same {w' : World} (h : Ctr w b r t m u p l e mv nd hw sq hc) (hb : w'.heap[b]? = w.heap[b]?) : Ctr w' b r t m u p l e mv nd hw sq hc := hb.trans h
end

set_option maxHeartbeats 400000 in
theorem zzStats_any (b : Nat) (r t m u p l e : Int) (mv : Value) (nd hw sq : Int) (hc : Bool) (w : World) (h : Ctr w b r t m u p l e mv nd hw sq hc) :
    Calls Trym.prog 18 #[.pointer (some ⟨b, 0, none⟩)] w fun er w' =>
      er = .returned (.agg #[.int .u64 r, .int .u64 t, .int .u64 m, .int .u64 u, .int .u64 p, .int .u64 l, .int .u64 e]) ∧ Below w.heap.size w w' := by
  obtain ⟨c0, c1, c2, c3, c4, c5, c6⟩ := h.stats
  have hlt := h.lt
  clear h
  go_enter Trym.func18, Trym.ntmps18
  go_wp2
  exact bodyPost_ret (v := .agg #[.int .u64 r, .int .u64 t, .int .u64 m, .int .u64 u, .int .u64 p, .int .u64 l, .int .u64 e]) (by simp [results, Trym.results18, go_sem]) rfl ⟨rfl, ((Below.refl _ _).alloc (Nat.le_refl _) _)⟩

theorem statsAre_any (r t m u p l e lost L : Int) (w : World) (hL : L = (l + lost) % 18446744073709551616) :
    Calls Trym.prog 17 #[.agg #[.int .u64 r, .int .u64 t, .int .u64 m, .int .u64 u, .int .u64 p, .int .u64 L, .int .u64 e], .agg #[.int .u64 r, .int .u64 t, .int .u64 m, .int .u64 u, .int .u64 p, .int .u64 l, .int .u64 e], .int .u64 lost] w fun e w' =>
      e = .returned (.bool true) ∧ Below w.heap.size w w' := by
  subst hL
  go_enter Trym.func17, Trym.ntmps17
  go_wp2
  go_ret
  exact ⟨rfl, ((Below.refl _ _).alloc (Nat.le_refl _) _).alloc (by simp) _⟩

set_option maxHeartbeats 400000 in
theorem zzCurrent_any (b : Nat) (r t m u p l e : Int) (mv : Value) (nd hw sq : Int) (hc : Bool) (w : World) (h : Ctr w b r t m u p l e mv nd hw sq hc) :
    Calls Trym.prog 12 #[.pointer (some ⟨b, 0, none⟩)] w fun er w' =>
      er = .returned (.tuple #[.int .u32 nd, .int .u8 hw, .int .u32 sq, .bool hc]) ∧ Below w.heap.size w w' := by
  have c8 := h.node
  have c9 := h.hwid
  have c10 := h.seq
  have c11 := h.has
  clear h
  go_enter Trym.func12, Trym.ntmps12
  go_wp2
  go_quiet (fail)
  go_wp2
  exact bodyPost_ret (v := .tuple #[.int .u32 nd, .int .u8 hw, .int .u32 sq, .bool hc]) (by simp [results, Trym.results12, go_sem]) rfl ⟨rfl, below_drewN (Below.refl _ _) _⟩

end Go.Proofs.Qxb6605559aMods
