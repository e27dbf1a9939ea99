import Derived.Test.Qxb6601415aModsM
namespace Go.Proofs.Qxb6601415aMods
open Go.RowKit Go.Extern.Stop
set_option linter.unusedVariables false
set_option maxRecDepth 20000

def psum (f : Nat → Nat) : Nat → Nat
  | 0 => 0
  | n + 1 => psum f n + f n
theorem psum_le {f : Nat → Nat} : ∀ {n : Nat} {i : Nat}, i < n → f i ≤ psum f n
  | 0, _, h => by omega
  | n + 1, i, h => by
    rw [psum]
    by_cases h2 : i < n
    · have := psum_le (f := f) h2; omega
    · have : i = n := by omega
      subst this; omega
def SizeOK (tn : Nat → Nat) (n : Nat) (e : Ending) : Prop := ∃ r : Bool, e = .returned (.bool r) ∧ (r = true → psum tn n ≤ 4096)
theorem SizeOK.no {tn : Nat → Nat} {n : Nat} : SizeOK tn n (.returned (.bool false)) := ⟨false, rfl, fun h => by cases h⟩
theorem SizeOK.yes {tn : Nat → Nat} {n : Nat} (r : Bool) (h : psum tn n ≤ 4096) : SizeOK tn n (.returned (.bool r)) := ⟨r, rfl, fun _ => h⟩

set_option maxHeartbeats 2000000 in
theorem sizeOK_some (b off n cap : Nat) (ids : Nat → List UInt8) (ta : Nat → Option Addr) (tn tc : Nat → Nat) (a1 a2 : Option Addr) (l1 c1 l2 c2 : Nat) (w : World) (hn : n ≤ 4096) (h1 : l1 ≤ 4096) (h2 : l2 ≤ 4096) (hids : ∀ i, i < n → (ids i).length = 20)
    (hrow : WRow w b off n 21 (fun i => ent (ids i) (.slice (ta i) (tn i) (tc i)))) :
    Calls Trym.prog 17 #[.slice (some ⟨b, off, none⟩) n cap, .slice a1 l1 c1, .slice a2 l2 c2] w fun e w' => SizeOK tn n e ∧ Below w.heap.size w w' := by
  have HR := hide (And.intro hrow hids)
  clear hrow hids
  have hn' : (n : Int) ≤ 4096 := by omega
  have h1' : (l1 : Int) ≤ 4096 := by omega
  have h2' : (l2 : Int) ≤ 4096 := by omega
  go_enter Trym.func17, Trym.ntmps17
  go_wp2
  go_loopw [7, 8] (fun t i wr => ∃ k : Nat, k ≤ n ∧ i = .int .i64 k ∧ t = .int .i64 (psum tn k) ∧ psum tn k ≤ 4096 ∧ Below w.heap.size w wr) (fun _ i _ => n - (intOf i).toNat)
  case atStart => exact ⟨0, Nat.zero_le _, rfl, rfl, by simp [psum], Below.refl _ _⟩
  case round =>
    obtain ⟨k, hk, rfl, rfl, hs, hbel⟩ := hrel
    by_cases hlt : k < n
    · have hra := HR.out.1 k hlt
      have hc : wr.cell? ⟨b, off + k * 21 + 20, none⟩ = some (.slice (ta k) (tn k) (tc k)) := rangeAt_head (rangeAt_right (rangeAt_below hbel (rangeAt_lt hra (by simp [ent])) hra) (by rw [idc_length, HR.out.2 k hlt]))
      have HS := hide (show psum tn (k + 1) = psum tn k + tn k from rfl)
      clear hra
      generalize tn k = tk at *
      generalize psum tn k = sk at *
      by_cases hbig : (4096 : Int) < (tk : Int)
      · go_wp2
        go_ret
        exact ⟨SizeOK.no, hbel⟩
      · have hadd : IntKind.i64.wrap ((sk : Int) + (tk : Int)) = (sk : Int) + (tk : Int) := by rw [IntKind.wrap_i64]; omega
        by_cases hbig2 : (4096 : Int) < (sk : Int) + (tk : Int)
        · go_wp2
          go_ret
          exact ⟨SizeOK.no, hbel⟩
        · go_wp2
          go_roundw
          case rel => exact ⟨k + 1, by omega, by go_num, congrArg (Value.int IntKind.i64) (by rw [HS.out]; omega), by rw [HS.out]; omega, hbel⟩
          case measure => simp [intOf]; omega
    · have : k = n := by omega
      subst this
      have HS := hide hs
      have hs' : ((psum tn k : Nat) : Int) ≤ 4096 := by omega
      have hs0 : (0 : Int) ≤ ((psum tn k : Nat) : Int) := by omega
      generalize ((psum tn k : Nat) : Int) = sk at *
      clear hs
      go_wp2
      go_ret
      exact ⟨SizeOK.yes _ HS.out, hbel⟩

theorem sizeOK_nil (tn : Nat → Nat) (a1 a2 : Option Addr) (l1 c1 l2 c2 : Nat) (w : World) (h1 : l1 ≤ 4096) (h2 : l2 ≤ 4096) :
    Calls Trym.prog 17 #[.slice none 0 0, .slice a1 l1 c1, .slice a2 l2 c2] w fun e w' => SizeOK tn 0 e ∧ Below w.heap.size w w' := by
  have h1' : (l1 : Int) ≤ 4096 := by omega
  have h2' : (l2 : Int) ≤ 4096 := by omega
  go_enter Trym.func17, Trym.ntmps17
  go_wp2
  refine wp_loop_rounds 1 ?_
  rw [rounds_succ]
  go_wp2
  go_ret
  exact ⟨SizeOK.yes _ (by simp [psum]), Below.refl _ _⟩

end Go.Proofs.Qxb6601415aMods
