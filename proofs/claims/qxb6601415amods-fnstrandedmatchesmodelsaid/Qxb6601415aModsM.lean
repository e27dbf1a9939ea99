import Derived.Test.Qxb6601415aModsL
namespace Go.Proofs.Qxb6601415aMods
open Go.RowKit Go.Extern.Stop
set_option linter.unusedVariables false
set_option maxRecDepth 20000

/-- The first n ids are told apart. -/
def Apart (ids : Nat → List UInt8) (n : Nat) : Prop := ∀ i j, j < i → i < n → ids i ≠ ids j
def ApartOK (ids : Nat → List UInt8) (n : Nat) (e : Ending) : Prop := ∃ r : Bool, e = .returned (.bool r) ∧ (r = true → Apart ids n)

set_option maxHeartbeats 2000000 in
theorem distB_some (b off n cap : Nat) (ids : Nat → List UInt8) (tv : Nat → Value) (w : World) (hn : n ≤ 4096) (hids : ∀ i, i < n → (ids i).length = 20)
    (hrow : WRow w b off n 21 (fun i => ent (ids i) (tv i))) :
    Calls Trym.prog 18 #[.slice (some ⟨b, off, none⟩) n cap] w fun e w' => ApartOK ids n e ∧ Below w.heap.size w w' := by
  have HR := hide (And.intro hrow hids)
  clear hrow hids
  go_enter Trym.func18, Trym.ntmps18
  go_wp2
  go_loopw [3] (fun i wr => ∃ k : Nat, k ≤ n ∧ i = .int .i64 k ∧ Apart ids k ∧ Below w.heap.size w wr) (fun i _ => n - (intOf i).toNat)
  case atStart => exact ⟨0, Nat.zero_le _, rfl, fun i j _ h => absurd h (by omega), Below.refl _ _⟩
  case round =>
    obtain ⟨k, hk, rfl, hap, hbel⟩ := hrel
    have HA := hide hap
    clear hap
    by_cases hlt : k < n
    · have hra := HR.out.1 k hlt
      have hl := HR.out.2 k hlt
      have hra1 : w.rangeAt b (off + k * 21 + 0) (idc (ids k)) := rangeAt_left hra
      have hlt1 : b < w.heap.size := rangeAt_lt hra (by simp [ent])
      clear hra
      have HB := hide (And.intro hl (And.intro hra1 hlt1))
      clear hl hra1 hlt1
      go_wp2
      generalize wr = wr0 at *
      go_loopw [4] (fun i wr => ∃ m : Nat, m ≤ k ∧ i = .int .i64 m ∧ (∀ j, j < m → ids k ≠ ids j) ∧ Below w.heap.size w wr) (fun i _ => k - (intOf i).toNat)
      case atStart => exact ⟨0, Nat.zero_le _, rfl, fun j h => absurd h (by omega), hbel⟩
      case round =>
        obtain ⟨m, hm, rfl, hne, hbel2⟩ := hrel
        have HN := hide hne
        clear hne hbel
        by_cases hlm : m < k
        · have hlm2 : m < n := by omega
          have hrb : w.rangeAt b (off + m * 21 + 0) (idc (ids m)) := rangeAt_left (HR.out.1 m hlm2)
          have hra2 := rangeAt_below hbel2 HB.out.2.2 HB.out.2.1
          have hrb2 := rangeAt_below hbel2 HB.out.2.2 hrb
          have hlb := HR.out.2 m hlm2
          clear hrb
          go_wp2
          refine wp_region_lex (fun w' => w'.rangeAt b (off + k * 21 + 0) (idc (ids k)) ∧ w'.rangeAt b (off + m * 21 + 0) (idc (ids m))) (by kernel_rfl) (by kernel_rfl) ⟨(World.rangeAt_drew _ _ _ _).2 hra2, (World.rangeAt_drew _ _ _ _).2 hrb2⟩ ?_
          refine lex_mv (.slice (some ⟨b, off, none⟩) n cap) _ rfl rfl rfl ?_
          simp only [Act.put, List.setIfInBounds_toArray, List.set_cons_zero, List.set_cons_succ]
          refine lex_mv (.int .i64 (k : Int)) _ rfl rfl rfl ?_
          simp only [Act.put, List.setIfInBounds_toArray, List.set_cons_zero, List.set_cons_succ]
          refine lex_index 39 50 _ _ b off n cap k 21 rfl rfl rfl rfl hlt Trym.underlying39 i50 ?_
          simp only [Act.put, List.setIfInBounds_toArray, List.set_cons_zero, List.set_cons_succ]
          refine lex_field 50 _ 0 b (off + k * 21) 0 _ _ rfl rfl rfl Trym.underlying50 rfl i34 rfl ?_
          simp only [Act.put, List.setIfInBounds_toArray, List.set_cons_zero, List.set_cons_succ]
          refine lex_load 34 _ b (off + k * 21 + 0) (idc (ids k)) _ rfl rfl rfl (fun _ h => h.1) Trym.underlying34 rfl (by rw [i34, idc_length, HB.out.1]) ?_
          simp only [Act.put, List.setIfInBounds_toArray, List.set_cons_zero, List.set_cons_succ]
          refine lex_mv (.slice (some ⟨b, off, none⟩) n cap) _ rfl rfl rfl ?_
          simp only [Act.put, List.setIfInBounds_toArray, List.set_cons_zero, List.set_cons_succ]
          refine lex_mv (.int .i64 (m : Int)) _ rfl rfl rfl ?_
          simp only [Act.put, List.setIfInBounds_toArray, List.set_cons_zero, List.set_cons_succ]
          refine lex_index 39 50 _ _ b off n cap m 21 rfl rfl rfl rfl hlm2 Trym.underlying39 i50 ?_
          simp only [Act.put, List.setIfInBounds_toArray, List.set_cons_zero, List.set_cons_succ]
          refine lex_field 50 _ 0 b (off + m * 21) 0 _ _ rfl rfl rfl Trym.underlying50 rfl i34 rfl ?_
          simp only [Act.put, List.setIfInBounds_toArray, List.set_cons_zero, List.set_cons_succ]
          refine lex_load 34 _ b (off + m * 21 + 0) (idc (ids m)) _ rfl rfl rfl (fun _ h => h.2) Trym.underlying34 rfl (by rw [i34, idc_length, hlb]) ?_
          simp only [Act.put, List.setIfInBounds_toArray, List.set_cons_zero, List.set_cons_succ]
          refine lex_bin .eql 34 34 _ _ (.agg (idc (ids k)).toArray) (.agg (idc (ids m)).toArray) (.bool (ids k == ids m)) rfl rfl rfl rfl (guard34 _ _ _ _ _) (eql34 (ids k) (ids m) HB.out.1 hlb) ?_
          simp only [Act.put, List.setIfInBounds_toArray, List.set_cons_zero, List.set_cons_succ]
          refine lex_nil (NoPanic.normal ?_)
          clear hra2 hrb2 hlb
          cases hq : (ids k == ids m) with
          | true =>
            clear hq
            go_wp2
            go_ret
            exact ⟨⟨false, rfl, fun h => by cases h⟩, hbel2.drew⟩
          | false =>
            have HQ := hide (show ∀ j, j < m + 1 → ids k ≠ ids j from fun j hj he => by
              by_cases h2 : j < m
              · exact HN.out j h2 he
              · have : j = m := by omega
                subst this
                rw [he, beq_self_eq_true] at hq
                cases hq)
            clear hq
            go_wp2
            go_roundw
            case rel => exact ⟨m + 1, by omega, by go_num, HQ.out, hbel2.drew⟩
            case measure => simp [intOf]; omega
        · have : m = k := by omega
          subst this
          have HQ := hide (show Apart ids (m + 1) from fun i j hji hi => by
            by_cases h2 : i < m
            · exact HA.out i j hji h2
            · have : i = m := by omega
              subst this
              exact HN.out j hji)
          go_wp2
          go_roundw
          case rel => exact ⟨m + 1, by omega, by go_num, HQ.out, hbel2⟩
          case measure => simp [intOf]; omega
    · have : k = n := by omega
      subst this
      go_wp2
      go_ret
      exact ⟨⟨true, rfl, fun _ => HA.out⟩, hbel⟩

theorem distB_nil (ids : Nat → List UInt8) (w : World) : Calls Trym.prog 18 #[.slice none 0 0] w fun e w' => ApartOK ids 0 e ∧ Below w.heap.size w w' := by
  go_enter Trym.func18, Trym.ntmps18
  go_wp2
  refine wp_loop_rounds 1 ?_
  rw [rounds_succ]
  go_wp2
  go_ret
  exact ⟨⟨true, rfl, fun _ i j _ h => absurd h (by omega)⟩, Below.refl _ _⟩

theorem distB_any (v : Value) (n : Nat) (ids : Nat → List UInt8) (tv : Nat → Value) (w : World) (hn : n ≤ 4096) (h : BasesV w v n ids tv) :
    Calls Trym.prog 18 #[v] w fun e w' => ApartOK ids n e ∧ Below w.heap.size w w' := by
  obtain ⟨⟨rfl, rfl⟩ | ⟨b, off, cap, rfl, hr⟩, hl⟩ := h
  · exact distB_nil ids w
  · exact distB_some b off n cap ids tv w hn hl hr

set_option maxHeartbeats 2000000 in
theorem distW_some (b off n cap : Nat) (ids : Nat → List UInt8) (wn : Nat → Int) (w : World) (hn : n ≤ 4096) (hids : ∀ i, i < n → (ids i).length = 20)
    (hrow : WRow w b off n 21 (fun i => ent (ids i) (.int .i64 (wn i)))) :
    Calls Trym.prog 19 #[.slice (some ⟨b, off, none⟩) n cap] w fun e w' => ApartOK ids n e ∧ Below w.heap.size w w' := by
  have HR := hide (And.intro hrow hids)
  clear hrow hids
  go_enter Trym.func19, Trym.ntmps19
  go_wp2
  go_loopw [3] (fun i wr => ∃ k : Nat, k ≤ n ∧ i = .int .i64 k ∧ Apart ids k ∧ Below w.heap.size w wr) (fun i _ => n - (intOf i).toNat)
  case atStart => exact ⟨0, Nat.zero_le _, rfl, fun i j _ h => absurd h (by omega), Below.refl _ _⟩
  case round =>
    obtain ⟨k, hk, rfl, hap, hbel⟩ := hrel
    have HA := hide hap
    clear hap
    by_cases hlt : k < n
    · have hra := HR.out.1 k hlt
      have hl := HR.out.2 k hlt
      have hra1 : w.rangeAt b (off + k * 21 + 0) (idc (ids k)) := rangeAt_left hra
      have hlt1 : b < w.heap.size := rangeAt_lt hra (by simp [ent])
      clear hra
      have HB := hide (And.intro hl (And.intro hra1 hlt1))
      clear hl hra1 hlt1
      go_wp2
      generalize wr = wr0 at *
      go_loopw [4] (fun i wr => ∃ m : Nat, m ≤ k ∧ i = .int .i64 m ∧ (∀ j, j < m → ids k ≠ ids j) ∧ Below w.heap.size w wr) (fun i _ => k - (intOf i).toNat)
      case atStart => exact ⟨0, Nat.zero_le _, rfl, fun j h => absurd h (by omega), hbel⟩
      case round =>
        obtain ⟨m, hm, rfl, hne, hbel2⟩ := hrel
        have HN := hide hne
        clear hne hbel
        by_cases hlm : m < k
        · have hlm2 : m < n := by omega
          have hrb : w.rangeAt b (off + m * 21 + 0) (idc (ids m)) := rangeAt_left (HR.out.1 m hlm2)
          have hra2 := rangeAt_below hbel2 HB.out.2.2 HB.out.2.1
          have hrb2 := rangeAt_below hbel2 HB.out.2.2 hrb
          have hlb := HR.out.2 m hlm2
          clear hrb
          go_wp2
          refine wp_region_lex (fun w' => w'.rangeAt b (off + k * 21 + 0) (idc (ids k)) ∧ w'.rangeAt b (off + m * 21 + 0) (idc (ids m))) (by kernel_rfl) (by kernel_rfl) ⟨(World.rangeAt_drew _ _ _ _).2 hra2, (World.rangeAt_drew _ _ _ _).2 hrb2⟩ ?_
          refine lex_mv (.slice (some ⟨b, off, none⟩) n cap) _ rfl rfl rfl ?_
          simp only [Act.put, List.setIfInBounds_toArray, List.set_cons_zero, List.set_cons_succ]
          refine lex_mv (.int .i64 (k : Int)) _ rfl rfl rfl ?_
          simp only [Act.put, List.setIfInBounds_toArray, List.set_cons_zero, List.set_cons_succ]
          refine lex_index 40 77 _ _ b off n cap k 21 rfl rfl rfl rfl hlt Trym.underlying40 i77 ?_
          simp only [Act.put, List.setIfInBounds_toArray, List.set_cons_zero, List.set_cons_succ]
          refine lex_field 77 _ 0 b (off + k * 21) 0 _ _ rfl rfl rfl Trym.underlying77 rfl i34 rfl ?_
          simp only [Act.put, List.setIfInBounds_toArray, List.set_cons_zero, List.set_cons_succ]
          refine lex_load 34 _ b (off + k * 21 + 0) (idc (ids k)) _ rfl rfl rfl (fun _ h => h.1) Trym.underlying34 rfl (by rw [i34, idc_length, HB.out.1]) ?_
          simp only [Act.put, List.setIfInBounds_toArray, List.set_cons_zero, List.set_cons_succ]
          refine lex_mv (.slice (some ⟨b, off, none⟩) n cap) _ rfl rfl rfl ?_
          simp only [Act.put, List.setIfInBounds_toArray, List.set_cons_zero, List.set_cons_succ]
          refine lex_mv (.int .i64 (m : Int)) _ rfl rfl rfl ?_
          simp only [Act.put, List.setIfInBounds_toArray, List.set_cons_zero, List.set_cons_succ]
          refine lex_index 40 77 _ _ b off n cap m 21 rfl rfl rfl rfl hlm2 Trym.underlying40 i77 ?_
          simp only [Act.put, List.setIfInBounds_toArray, List.set_cons_zero, List.set_cons_succ]
          refine lex_field 77 _ 0 b (off + m * 21) 0 _ _ rfl rfl rfl Trym.underlying77 rfl i34 rfl ?_
          simp only [Act.put, List.setIfInBounds_toArray, List.set_cons_zero, List.set_cons_succ]
          refine lex_load 34 _ b (off + m * 21 + 0) (idc (ids m)) _ rfl rfl rfl (fun _ h => h.2) Trym.underlying34 rfl (by rw [i34, idc_length, hlb]) ?_
          simp only [Act.put, List.setIfInBounds_toArray, List.set_cons_zero, List.set_cons_succ]
          refine lex_bin .eql 34 34 _ _ (.agg (idc (ids k)).toArray) (.agg (idc (ids m)).toArray) (.bool (ids k == ids m)) rfl rfl rfl rfl (guard34 _ _ _ _ _) (eql34 (ids k) (ids m) HB.out.1 hlb) ?_
          simp only [Act.put, List.setIfInBounds_toArray, List.set_cons_zero, List.set_cons_succ]
          refine lex_nil (NoPanic.normal ?_)
          clear hra2 hrb2 hlb
          cases hq : (ids k == ids m) with
          | true =>
            clear hq
            go_wp2
            go_ret
            exact ⟨⟨false, rfl, fun h => by cases h⟩, hbel2.drew⟩
          | false =>
            have HQ := hide (show ∀ j, j < m + 1 → ids k ≠ ids j from fun j hj he => by
              by_cases h2 : j < m
              · exact HN.out j h2 he
              · have : j = m := by omega
                subst this
                rw [he, beq_self_eq_true] at hq
                cases hq)
            clear hq
            go_wp2
            go_roundw
            case rel => exact ⟨m + 1, by omega, by go_num, HQ.out, hbel2.drew⟩
            case measure => simp [intOf]; omega
        · have : m = k := by omega
          subst this
          have HQ := hide (show Apart ids (m + 1) from fun i j hji hi => by
            by_cases h2 : i < m
            · exact HA.out i j hji h2
            · have : i = m := by omega
              subst this
              exact HN.out j hji)
          go_wp2
          go_roundw
          case rel => exact ⟨m + 1, by omega, by go_num, HQ.out, hbel2⟩
          case measure => simp [intOf]; omega
    · have : k = n := by omega
      subst this
      go_wp2
      go_ret
      exact ⟨⟨true, rfl, fun _ => HA.out⟩, hbel⟩

theorem distW_nil (ids : Nat → List UInt8) (w : World) : Calls Trym.prog 19 #[.slice none 0 0] w fun e w' => ApartOK ids 0 e ∧ Below w.heap.size w w' := by
  go_enter Trym.func19, Trym.ntmps19
  go_wp2
  refine wp_loop_rounds 1 ?_
  rw [rounds_succ]
  go_wp2
  go_ret
  exact ⟨⟨true, rfl, fun _ i j _ h => absurd h (by omega)⟩, Below.refl _ _⟩

theorem distW_any (v : Value) (n : Nat) (ids : Nat → List UInt8) (wn : Nat → Int) (w : World) (hn : n ≤ 4096) (h : WaitsV w v n ids wn) :
    Calls Trym.prog 19 #[v] w fun e w' => ApartOK ids n e ∧ Below w.heap.size w w' := by
  obtain ⟨⟨rfl, rfl⟩ | ⟨b, off, cap, rfl, hr⟩, hl⟩ := h
  · exact distW_nil ids w
  · exact distW_some b off n cap ids wn w hn hl hr

end Go.Proofs.Qxb6601415aMods
