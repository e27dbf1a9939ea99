import Derived.Test.Qxb6609509aModsF
namespace Go.Proofs.Qxb6609509aMods
open Go.RowKit
set_option linter.unusedVariables false

/-- It answers yes or no. -/
def SomeBool (e : Ending) : Prop := ∃ r, e = .returned (.bool r)
/-- A slice of strings. -/
def Strs (w : World) (a : Option Addr) (len : Nat) (ss : Nat → ByteArray) : Prop := len = 0 ∨ ∃ b off, a = some ⟨b, off, none⟩ ∧ ∀ i, i < len → w.cell? ⟨b, off + i, none⟩ = some (.string (ss i))

set_option maxHeartbeats 1000000 in
theorem zz_some (nd un rc ap : Bool) (u md : ByteArray) (b off len cap : Nat) (ss : Nat → ByteArray) (op kd dn bd dr : Int) (w : World) (hl : len ≤ 9223372036854775807) (hs : ∀ i, i < len → w.cell? ⟨b, off + i, none⟩ = some (.string (ss i))) :
    Calls Trym.prog 9 #[.bool nd, .bool un, .string u, .slice (some ⟨b, off, none⟩) len cap, .bool rc, .string md, .int .u8 op, .int .u8 kd, .bool ap, .int .u8 dn, .int .u8 bd, .int .u8 dr] w fun e w' => SomeBool e ∧ w' = w := by
  have HS := hide hs
  clear hs
  by_cases h1 : (1048576 : Int) < u.size
  · go_enter Trym.func9, Trym.ntmps9
    go_wp2
    go_ret
    exact ⟨⟨_, rfl⟩, rfl⟩
  by_cases h2 : (1048576 : Int) < len
  · go_enter Trym.func9, Trym.ntmps9
    go_wp2
    go_ret
    exact ⟨⟨_, rfl⟩, rfl⟩
  by_cases h3 : (1048576 : Int) < (u.size : Int) + len
  · go_enter Trym.func9, Trym.ntmps9
    go_wp2
    go_ret
    exact ⟨⟨_, rfl⟩, rfl⟩
  go_enter Trym.func9, Trym.ntmps9
  go_wp2
  go_loopw [25, 26] (fun n i wr => ∃ (k : Nat) (z : Int), k ≤ len ∧ i = .int .i64 k ∧ n = .int .i64 z ∧ 0 ≤ z ∧ z ≤ 1048576 ∧ wr = w) (fun _ i _ => len - (intOf i).toNat)
  case atStart => exact ⟨0, (u.size : Int) + len, Nat.zero_le _, rfl, rfl, by omega, by omega, rfl⟩
  case round =>
    obtain ⟨k, z, hk, rfl, rfl, z0, z1, hw⟩ := hrel
    have hw' := hw.symm
    clear hw
    subst hw'
    by_cases hlt : k < len
    · have c0 := HS.out k hlt
      by_cases g1 : (1048576 : Int) < (ss k).size
      · go_wp2
        go_ret
        exact ⟨⟨_, rfl⟩, rfl⟩
      by_cases g2 : (1048576 : Int) < z + (ss k).size
      · go_wp2
        go_ret
        exact ⟨⟨_, rfl⟩, rfl⟩
      go_wp2
      go_roundw
      case rel => exact ⟨k + 1, z + (ss k).size, by omega, by go_num, rfl, by omega, by omega, trivial⟩
      case measure => simp [intOf]; omega
    · have : k = len := by omega
      subst this
      by_cases g1 : (1048576 : Int) < md.size
      · go_wp2
        go_ret
        exact ⟨⟨_, rfl⟩, rfl⟩
      by_cases g2 : (1048576 : Int) < z + md.size
      · go_wp2
        go_ret
        exact ⟨⟨_, rfl⟩, rfl⟩
      go_wp2
      go_ret
      exact ⟨⟨_, rfl⟩, rfl⟩

set_option maxHeartbeats 1000000 in
theorem zz_zero (nd un rc ap : Bool) (u md : ByteArray) (a : Option Addr) (cap : Nat) (op kd dn bd dr : Int) (w : World) :
    Calls Trym.prog 9 #[.bool nd, .bool un, .string u, .slice a 0 cap, .bool rc, .string md, .int .u8 op, .int .u8 kd, .bool ap, .int .u8 dn, .int .u8 bd, .int .u8 dr] w fun e w' => SomeBool e ∧ w' = w := by
  by_cases h1 : (1048576 : Int) < u.size
  · go_enter Trym.func9, Trym.ntmps9
    go_wp2
    go_ret
    exact ⟨⟨_, rfl⟩, rfl⟩
  by_cases g1 : (1048576 : Int) < md.size
  · go_enter Trym.func9, Trym.ntmps9
    go_wp2
    refine wp_loop_rounds 1 ?_
    rw [rounds_succ]
    go_wp2
    go_ret
    exact ⟨⟨_, rfl⟩, rfl⟩
  by_cases g2 : (1048576 : Int) < (u.size : Int) + md.size
  · go_enter Trym.func9, Trym.ntmps9
    go_wp2
    refine wp_loop_rounds 1 ?_
    rw [rounds_succ]
    go_wp2
    go_ret
    exact ⟨⟨_, rfl⟩, rfl⟩
  go_enter Trym.func9, Trym.ntmps9
  go_wp2
  refine wp_loop_rounds 1 ?_
  rw [rounds_succ]
  go_wp2
  go_ret
  exact ⟨⟨_, rfl⟩, rfl⟩

set_option maxHeartbeats 1000000 in
theorem wb_some (u md : ByteArray) (b off len cap : Nat) (ss : Nat → ByteArray) (w : World) (hl : len ≤ 9223372036854775807) (hs : ∀ i, i < len → w.cell? ⟨b, off + i, none⟩ = some (.string (ss i))) :
    Calls Trym.prog 10 #[.string u, .string md, .slice (some ⟨b, off, none⟩) len cap] w fun e w' => SomeBool e ∧ w' = w := by
  have HS := hide hs
  clear hs
  by_cases h1 : (1048576 : Int) < u.size
  · go_enter Trym.func10, Trym.ntmps10
    go_wp2
    go_ret
    exact ⟨⟨_, rfl⟩, rfl⟩
  by_cases h2 : (1048576 : Int) < md.size
  · go_enter Trym.func10, Trym.ntmps10
    go_wp2
    go_ret
    exact ⟨⟨_, rfl⟩, rfl⟩
  by_cases h3 : (131072 : Int) < len
  · go_enter Trym.func10, Trym.ntmps10
    go_wp2
    go_ret
    exact ⟨⟨_, rfl⟩, rfl⟩
  go_enter Trym.func10, Trym.ntmps10
  go_wp2
  go_loopw [7, 8] (fun n i wr => ∃ (k : Nat) (z : Int), k ≤ len ∧ i = .int .i64 k ∧ n = .int .i64 z ∧ wr = w) (fun _ i _ => len - (intOf i).toNat)
  case atStart => exact ⟨0, _, Nat.zero_le _, rfl, rfl, rfl⟩
  case round =>
    obtain ⟨k, z, hk, rfl, rfl, hw⟩ := hrel
    have hw' := hw.symm
    clear hw
    subst hw'
    by_cases hlt : k < len
    · have c0 := HS.out k hlt
      by_cases g1 : (1048576 : Int) < z
      · go_wp2
        go_ret
        exact ⟨⟨_, rfl⟩, rfl⟩
      go_wp2
      go_roundw
      case rel => exact ⟨k + 1, _, by omega, by go_num, rfl, trivial⟩
      case measure => simp [intOf]; omega
    · have : k = len := by omega
      subst this
      go_wp2
      go_ret
      exact ⟨⟨_, rfl⟩, rfl⟩

set_option maxHeartbeats 1000000 in
theorem wb_zero (u md : ByteArray) (a : Option Addr) (cap : Nat) (w : World) :
    Calls Trym.prog 10 #[.string u, .string md, .slice a 0 cap] w fun e w' => SomeBool e ∧ w' = w := by
  by_cases h1 : (1048576 : Int) < u.size
  · go_enter Trym.func10, Trym.ntmps10
    go_wp2
    go_ret
    exact ⟨⟨_, rfl⟩, rfl⟩
  by_cases h2 : (1048576 : Int) < md.size
  · go_enter Trym.func10, Trym.ntmps10
    go_wp2
    go_ret
    exact ⟨⟨_, rfl⟩, rfl⟩
  go_enter Trym.func10, Trym.ntmps10
  go_wp2
  refine wp_loop_rounds 1 ?_
  rw [rounds_succ]
  go_wp2
  go_ret
  exact ⟨⟨_, rfl⟩, rfl⟩

theorem zz_any (nd un rc ap : Bool) (u md : ByteArray) (a : Option Addr) (len cap : Nat) (ss : Nat → ByteArray) (op kd dn bd dr : Int) (w : World) (hl : len ≤ 9223372036854775807) (hs : Strs w a len ss) :
    Calls Trym.prog 9 #[.bool nd, .bool un, .string u, .slice a len cap, .bool rc, .string md, .int .u8 op, .int .u8 kd, .bool ap, .int .u8 dn, .int .u8 bd, .int .u8 dr] w fun e w' => SomeBool e ∧ w' = w := by
  rcases hs with rfl | ⟨b, off, rfl, hs⟩
  · exact zz_zero nd un rc ap u md a cap op kd dn bd dr w
  · exact zz_some nd un rc ap u md b off len cap ss op kd dn bd dr w hl hs
theorem wb_any (u md : ByteArray) (a : Option Addr) (len cap : Nat) (ss : Nat → ByteArray) (w : World) (hl : len ≤ 9223372036854775807) (hs : Strs w a len ss) :
    Calls Trym.prog 10 #[.string u, .string md, .slice a len cap] w fun e w' => SomeBool e ∧ w' = w := by
  rcases hs with rfl | ⟨b, off, rfl, hs⟩
  · exact wb_zero u md a cap w
  · exact wb_some u md b off len cap ss w hl hs

end Go.Proofs.Qxb6609509aMods
