import Derived.Test.Qxb6601415aModsH
namespace Go.Proofs.Qxb6601415aMods
open Go.RowKit Go.Extern.Stop
set_option linter.unusedVariables false
set_option maxRecDepth 20000

theorem hasId_succ (ids : Nat → List UInt8) (x : List UInt8) (k : Nat) : hasId ids x (k + 1) = (hasId ids x k || (ids k == x)) := by simp [hasId, List.range_succ]
theorem hasId_true {ids : Nat → List UInt8} {x : List UInt8} {k n : Nat} (hk : k < n) (h : (ids k == x) = true) : hasId ids x n = true := by
  simp only [hasId, List.any_eq_true, List.mem_range]; exact ⟨k, hk, h⟩

set_option maxHeartbeats 1000000 in
theorem contains_some (b off len cap : Nat) (ids : Nat → List UInt8) (x : List UInt8) (w : World) (hlen : len ≤ 100000) (hx : x.length = 20) (hids : ∀ i, i < len → (ids i).length = 20)
    (hrow : WRow w b off len 20 (fun i => idc (ids i))) :
    Calls Trym.prog 23 #[.slice (some ⟨b, off, none⟩) len cap, .agg (idc x).toArray] w fun e w' => e = .returned (.bool (hasId ids x len)) ∧ Below w.heap.size w w' := by
  have HR := hide (And.intro hrow hids)
  have HX := hide hx
  clear hrow hids hx
  go_enter Trym.func23, Trym.ntmps23
  go_wp2
  go_loopw [5] (fun i wr => ∃ k : Nat, k ≤ len ∧ i = .int .i64 k ∧ hasId ids x k = false ∧ wr.rangeAt w.heap.size 0 (idc x) ∧ Below w.heap.size w wr) (fun i _ => len - (intOf i).toNat)
  case atStart => exact ⟨0, Nat.zero_le _, rfl, rfl, rangeAt_new _ _ _, (Below.refl _ _).alloc (Nat.le_refl _) _⟩
  case round =>
    obtain ⟨k, hk, rfl, hno, hbox, hbel⟩ := hrel
    have HN := hide hno
    clear hno
    by_cases hlt : k < len
    · go_wp2
      refine wp_region_lex (fun w' => w'.rangeAt b (off + k * 20) (idc (ids k)) ∧ w'.rangeAt w.heap.size 0 (idc x)) (by kernel_rfl) (by kernel_rfl) ⟨(World.rangeAt_drew _ _ _ _).2 (rangeAt_below hbel (rangeAt_lt (HR.out.1 k hlt) (by rw [idc_length, HR.out.2 k hlt]; omega)) (HR.out.1 k hlt)), (World.rangeAt_drew _ _ _ _).2 hbox⟩ ?_
      refine lex_mv (.slice (some ⟨b, off, none⟩) len cap) _ rfl rfl rfl ?_
      simp only [Act.put, List.setIfInBounds_toArray, List.set_cons_zero, List.set_cons_succ]
      refine lex_mv (.int .i64 (k : Int)) _ rfl rfl rfl ?_
      simp only [Act.put, List.setIfInBounds_toArray, List.set_cons_zero, List.set_cons_succ]
      refine lex_index 28 34 _ _ b off len cap k 20 rfl rfl rfl rfl hlt Trym.underlying28 i34 ?_
      simp only [Act.put, List.setIfInBounds_toArray, List.set_cons_zero, List.set_cons_succ]
      refine lex_load 34 _ b (off + k * 20) (idc (ids k)) _ rfl rfl rfl (fun _ h => h.1) Trym.underlying34 rfl (by rw [i34, idc_length, HR.out.2 k hlt]) ?_
      simp only [Act.put, List.setIfInBounds_toArray, List.set_cons_zero, List.set_cons_succ]
      refine lex_load 34 _ w.heap.size 0 (idc x) _ rfl rfl rfl (fun _ h => h.2) Trym.underlying34 rfl (by rw [i34, idc_length, HX.out]) ?_
      simp only [Act.put, List.setIfInBounds_toArray, List.set_cons_zero, List.set_cons_succ]
      refine lex_bin .eql 34 34 _ _ (.agg (idc (ids k)).toArray) (.agg (idc x).toArray) (.bool (ids k == x)) rfl rfl rfl rfl (guard34 _ _ _ _ _) (eql34 (ids k) x (HR.out.2 k hlt) HX.out) ?_
      simp only [Act.put, List.setIfInBounds_toArray, List.set_cons_zero, List.set_cons_succ]
      refine lex_nil (NoPanic.normal ?_)
      cases hq : (ids k == x) with
      | true =>
        have HQ := hide (hasId_true (n := len) hlt hq)
        clear hq
        have HB := hide hbel
        clear hbel
        go_wp2
        go_ret
        exact ⟨by rw [HQ.out]; rfl, HB.out.drew⟩
      | false =>
        have HQ := hide (show hasId ids x (k + 1) = false by rw [hasId_succ, HN.out, hq]; rfl)
        clear hq
        go_wp2
        go_roundw
        case rel => exact ⟨k + 1, by omega, by go_num, HQ.out, (World.rangeAt_drew _ _ _ _).2 hbox, hbel.drew⟩
        case measure => simp [intOf]; omega
    · have : k = len := by omega
      subst this
      go_wp2
      go_ret
      exact ⟨by rw [HN.out]; rfl, hbel⟩

theorem contains_nil (ids : Nat → List UInt8) (x : List UInt8) (w : World) :
    Calls Trym.prog 23 #[.slice none 0 0, .agg (idc x).toArray] w fun e w' => e = .returned (.bool (hasId ids x 0)) ∧ Below w.heap.size w w' := by
  go_enter Trym.func23, Trym.ntmps23
  go_wp2
  refine wp_loop_rounds 1 ?_
  rw [rounds_succ]
  go_wp2
  go_ret
  exact ⟨rfl, (Below.refl _ _).alloc (Nat.le_refl _) _⟩

/-- A slice of ids. -/
def IdsV (w : World) (v : Value) (n : Nat) (ids : Nat → List UInt8) : Prop := SlV w v n 20 (fun i => idc (ids i)) ∧ ∀ i, i < n → (ids i).length = 20

theorem contains_any (v : Value) (n : Nat) (ids : Nat → List UInt8) (x : List UInt8) (w : World) (hlen : n ≤ 100000) (hx : x.length = 20) (h : IdsV w v n ids) :
    Calls Trym.prog 23 #[v, .agg (idc x).toArray] w fun e w' => e = .returned (.bool (hasId ids x n)) ∧ Below w.heap.size w w' := by
  obtain ⟨⟨rfl, rfl⟩ | ⟨b, off, cap, rfl, hr⟩, hl⟩ := h
  · exact contains_nil ids x w
  · exact contains_some b off n cap ids x w hlen hx hl hr

end Go.Proofs.Qxb6601415aMods
