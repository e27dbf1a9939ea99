import Derived.Test.Qxb6601415aModsI
namespace Go.Proofs.Qxb6601415aMods
open Go.RowKit Go.Extern.Stop
set_option linter.unusedVariables false
set_option maxRecDepth 20000

/-- The first place of x among n ids; n if there is none. -/
def findId (ids : Nat → List UInt8) (x : List UInt8) : Nat → Option Nat
  | 0 => none
  | n + 1 => (findId ids x n).or (if ids n == x then some n else none)
theorem findId_none_succ {ids : Nat → List UInt8} {x : List UInt8} {k : Nat} (h : findId ids x k = none) (hk : (ids k == x) = false) : findId ids x (k + 1) = none := by
  rw [findId, h]; simp [hk]
theorem findId_some {ids : Nat → List UInt8} {x : List UInt8} {k : Nat} (h : findId ids x k = none) (hk : (ids k == x) = true) : ∀ n, k < n → findId ids x n = some k
  | 0, hn => by omega
  | n + 1, hn => by
    rw [findId]
    by_cases hkn : k < n
    · rw [findId_some h hk n hkn]; rfl
    · have : k = n := by omega
      subst this
      rw [h]; simp [hk]
def waitN (wid : Nat → List UInt8) (wn : Nat → Int) (n : Nat) (x : List UInt8) : Int := match findId wid x n with | some i => wn i | none => 0
def waitIn (wid : Nat → List UInt8) (n : Nat) (x : List UInt8) : Bool := (findId wid x n).isSome
def baseIx (bid : Nat → List UInt8) (n : Nat) (x : List UInt8) : Int := match findId bid x n with | some i => (i : Int) | none => -1

/-- The cells of an entry: an id and one cell. -/
def ent (x : List UInt8) (v : Value) : List Value := idc x ++ [v]

set_option maxHeartbeats 1000000 in
theorem waitOf_some (b off len cap : Nat) (wid : Nat → List UInt8) (wn : Nat → Int) (x : List UInt8) (w : World) (hlen : len ≤ 4096) (hx : x.length = 20) (hids : ∀ i, i < len → (wid i).length = 20)
    (hrow : WRow w b off len 21 (fun i => ent (wid i) (.int .i64 (wn i)))) :
    Calls Trym.prog 22 #[.slice (some ⟨b, off, none⟩) len cap, .agg (idc x).toArray] w fun e w' => e = .returned (.tuple #[.int .i64 (waitN wid wn len x), .bool (waitIn wid len x)]) ∧ Below w.heap.size w w' := by
  have HR := hide (And.intro hrow hids)
  have HX := hide hx
  clear hrow hids hx
  go_enter Trym.func22, Trym.ntmps22
  go_wp2
  go_loopw [6] (fun i wr => ∃ k : Nat, k ≤ len ∧ i = .int .i64 k ∧ findId wid x k = none ∧ wr.rangeAt w.heap.size 0 (idc x) ∧ Below w.heap.size w wr) (fun i _ => len - (intOf i).toNat)
  case atStart => exact ⟨0, Nat.zero_le _, rfl, rfl, rangeAt_new _ _ _, (Below.refl _ _).alloc (Nat.le_refl _) _⟩
  case round =>
    obtain ⟨k, hk, rfl, hno, hbox, hbel⟩ := hrel
    have HN := hide hno
    clear hno
    by_cases hlt : k < len
    · have hr0 := HR.out.1 k hlt
      have hr1 := rangeAt_below hbel (rangeAt_lt hr0 (by simp [ent])) hr0
      have hr2 : wr.rangeAt b (off + k * 21 + 0) (idc (wid k)) := rangeAt_left hr1
      have hc : wr.cell? ⟨b, off + k * 21 + 20, none⟩ = some (.int .i64 (wn k)) := rangeAt_head (rangeAt_right hr1 (by rw [idc_length, HR.out.2 k hlt]))
      clear hr0 hr1
      go_wp2
      refine wp_region_lex (fun w' => w'.rangeAt b (off + k * 21 + 0) (idc (wid k)) ∧ w'.rangeAt w.heap.size 0 (idc x)) (by kernel_rfl) (by kernel_rfl) ⟨(World.rangeAt_drew _ _ _ _).2 hr2, (World.rangeAt_drew _ _ _ _).2 hbox⟩ ?_
      refine lex_mv (.slice (some ⟨b, off, none⟩) len cap) _ rfl rfl rfl ?_
      simp only [Act.put, List.setIfInBounds_toArray, List.set_cons_zero, List.set_cons_succ]
      refine lex_mv (.int .i64 (k : Int)) _ rfl rfl rfl ?_
      simp only [Act.put, List.setIfInBounds_toArray, List.set_cons_zero, List.set_cons_succ]
      refine lex_index 40 77 _ _ b off len cap k 21 rfl rfl rfl rfl hlt Trym.underlying40 i77 ?_
      simp only [Act.put, List.setIfInBounds_toArray, List.set_cons_zero, List.set_cons_succ]
      refine lex_field 77 _ 0 b (off + k * 21) 0 _ _ rfl rfl rfl Trym.underlying77 rfl i34 rfl ?_
      simp only [Act.put, List.setIfInBounds_toArray, List.set_cons_zero, List.set_cons_succ]
      refine lex_load 34 _ b (off + k * 21 + 0) (idc (wid k)) _ rfl rfl rfl (fun _ h => h.1) Trym.underlying34 rfl (by rw [i34, idc_length, HR.out.2 k hlt]) ?_
      simp only [Act.put, List.setIfInBounds_toArray, List.set_cons_zero, List.set_cons_succ]
      refine lex_load 34 _ w.heap.size 0 (idc x) _ rfl rfl rfl (fun _ h => h.2) Trym.underlying34 rfl (by rw [i34, idc_length, HX.out]) ?_
      simp only [Act.put, List.setIfInBounds_toArray, List.set_cons_zero, List.set_cons_succ]
      refine lex_bin .eql 34 34 _ _ (.agg (idc (wid k)).toArray) (.agg (idc x).toArray) (.bool (wid k == x)) rfl rfl rfl rfl (guard34 _ _ _ _ _) (eql34 (wid k) x (HR.out.2 k hlt) HX.out) ?_
      simp only [Act.put, List.setIfInBounds_toArray, List.set_cons_zero, List.set_cons_succ]
      refine lex_nil (NoPanic.normal ?_)
      clear hr2
      cases hq : (wid k == x) with
      | true =>
        have HQ := hide (findId_some HN.out hq len hlt)
        clear hq
        have HB := hide hbel
        clear hbel hbox
        go_wp2
        go_ret2
        exact ⟨by unfold waitN waitIn; rw [HQ.out]; rfl, HB.out.drew⟩
      | false =>
        have HQ := hide (findId_none_succ HN.out hq)
        clear hq hc
        go_wp2
        go_roundw
        case rel => exact ⟨k + 1, by omega, by go_num, HQ.out, (World.rangeAt_drew _ _ _ _).2 hbox, hbel.drew⟩
        case measure => simp [intOf]; omega
    · have : k = len := by omega
      subst this
      go_wp2
      go_ret2
      exact ⟨by unfold waitN waitIn; rw [HN.out]; rfl, hbel⟩

theorem waitOf_nil (wid : Nat → List UInt8) (wn : Nat → Int) (x : List UInt8) (w : World) :
    Calls Trym.prog 22 #[.slice none 0 0, .agg (idc x).toArray] w fun e w' => e = .returned (.tuple #[.int .i64 (waitN wid wn 0 x), .bool (waitIn wid 0 x)]) ∧ Below w.heap.size w w' := by
  go_enter Trym.func22, Trym.ntmps22
  go_wp2
  refine wp_loop_rounds 1 ?_
  rw [rounds_succ]
  go_wp2
  go_ret2
  exact ⟨rfl, (Below.refl _ _).alloc (Nat.le_refl _) _⟩

/-- A slice of waiting entries. -/
def WaitsV (w : World) (v : Value) (n : Nat) (wid : Nat → List UInt8) (wn : Nat → Int) : Prop := SlV w v n 21 (fun i => ent (wid i) (.int .i64 (wn i))) ∧ ∀ i, i < n → (wid i).length = 20

theorem waitOf_any (v : Value) (n : Nat) (wid : Nat → List UInt8) (wn : Nat → Int) (x : List UInt8) (w : World) (hlen : n ≤ 4096) (hx : x.length = 20) (h : WaitsV w v n wid wn) :
    Calls Trym.prog 22 #[v, .agg (idc x).toArray] w fun e w' => e = .returned (.tuple #[.int .i64 (waitN wid wn n x), .bool (waitIn wid n x)]) ∧ Below w.heap.size w w' := by
  obtain ⟨⟨rfl, rfl⟩ | ⟨b, off, cap, rfl, hr⟩, hl⟩ := h
  · exact waitOf_nil wid wn x w
  · exact waitOf_some b off n cap wid wn x w hlen hx hl hr

set_option maxHeartbeats 1000000 in
theorem baseIdx_some (b off len cap : Nat) (bid : Nat → List UInt8) (tv : Nat → Value) (x : List UInt8) (w : World) (hlen : len ≤ 4096) (hx : x.length = 20) (hids : ∀ i, i < len → (bid i).length = 20)
    (hrow : WRow w b off len 21 (fun i => ent (bid i) (tv i))) :
    Calls Trym.prog 27 #[.slice (some ⟨b, off, none⟩) len cap, .agg (idc x).toArray] w fun e w' => e = .returned (.int .i64 (baseIx bid len x)) ∧ Below w.heap.size w w' := by
  have HR := hide (And.intro hrow hids)
  have HX := hide hx
  clear hrow hids hx
  go_enter Trym.func27, Trym.ntmps27
  go_wp2
  go_loopw [5] (fun i wr => ∃ k : Nat, k ≤ len ∧ i = .int .i64 k ∧ findId bid x k = none ∧ wr.rangeAt w.heap.size 0 (idc x) ∧ Below w.heap.size w wr) (fun i _ => len - (intOf i).toNat)
  case atStart => exact ⟨0, Nat.zero_le _, rfl, rfl, rangeAt_new _ _ _, (Below.refl _ _).alloc (Nat.le_refl _) _⟩
  case round =>
    obtain ⟨k, hk, rfl, hno, hbox, hbel⟩ := hrel
    have HN := hide hno
    clear hno
    by_cases hlt : k < len
    · have hr0 := HR.out.1 k hlt
      have hr1 := rangeAt_below hbel (rangeAt_lt hr0 (by simp [ent])) hr0
      have hr2 : wr.rangeAt b (off + k * 21 + 0) (idc (bid k)) := rangeAt_left hr1
      clear hr0 hr1
      go_wp2
      refine wp_region_lex (fun w' => w'.rangeAt b (off + k * 21 + 0) (idc (bid k)) ∧ w'.rangeAt w.heap.size 0 (idc x)) (by kernel_rfl) (by kernel_rfl) ⟨(World.rangeAt_drew _ _ _ _).2 hr2, (World.rangeAt_drew _ _ _ _).2 hbox⟩ ?_
      refine lex_mv (.slice (some ⟨b, off, none⟩) len cap) _ rfl rfl rfl ?_
      simp only [Act.put, List.setIfInBounds_toArray, List.set_cons_zero, List.set_cons_succ]
      refine lex_mv (.int .i64 (k : Int)) _ rfl rfl rfl ?_
      simp only [Act.put, List.setIfInBounds_toArray, List.set_cons_zero, List.set_cons_succ]
      refine lex_index 39 50 _ _ b off len cap k 21 rfl rfl rfl rfl hlt Trym.underlying39 i50 ?_
      simp only [Act.put, List.setIfInBounds_toArray, List.set_cons_zero, List.set_cons_succ]
      refine lex_field 50 _ 0 b (off + k * 21) 0 _ _ rfl rfl rfl Trym.underlying50 rfl i34 rfl ?_
      simp only [Act.put, List.setIfInBounds_toArray, List.set_cons_zero, List.set_cons_succ]
      refine lex_load 34 _ b (off + k * 21 + 0) (idc (bid k)) _ rfl rfl rfl (fun _ h => h.1) Trym.underlying34 rfl (by rw [i34, idc_length, HR.out.2 k hlt]) ?_
      simp only [Act.put, List.setIfInBounds_toArray, List.set_cons_zero, List.set_cons_succ]
      refine lex_load 34 _ w.heap.size 0 (idc x) _ rfl rfl rfl (fun _ h => h.2) Trym.underlying34 rfl (by rw [i34, idc_length, HX.out]) ?_
      simp only [Act.put, List.setIfInBounds_toArray, List.set_cons_zero, List.set_cons_succ]
      refine lex_bin .eql 34 34 _ _ (.agg (idc (bid k)).toArray) (.agg (idc x).toArray) (.bool (bid k == x)) rfl rfl rfl rfl (guard34 _ _ _ _ _) (eql34 (bid k) x (HR.out.2 k hlt) HX.out) ?_
      simp only [Act.put, List.setIfInBounds_toArray, List.set_cons_zero, List.set_cons_succ]
      refine lex_nil (NoPanic.normal ?_)
      clear hr2
      cases hq : (bid k == x) with
      | true =>
        have HQ := hide (findId_some HN.out hq len hlt)
        clear hq
        have HB := hide hbel
        clear hbel hbox
        go_wp2
        go_ret
        exact ⟨by unfold baseIx; rw [HQ.out]; rfl, HB.out.drew⟩
      | false =>
        have HQ := hide (findId_none_succ HN.out hq)
        clear hq
        go_wp2
        go_roundw
        case rel => exact ⟨k + 1, by omega, by go_num, HQ.out, (World.rangeAt_drew _ _ _ _).2 hbox, hbel.drew⟩
        case measure => simp [intOf]; omega
    · have : k = len := by omega
      subst this
      go_wp2
      go_ret
      exact ⟨by unfold baseIx; rw [HN.out]; rfl, hbel⟩

theorem baseIdx_nil (bid : Nat → List UInt8) (x : List UInt8) (w : World) :
    Calls Trym.prog 27 #[.slice none 0 0, .agg (idc x).toArray] w fun e w' => e = .returned (.int .i64 (baseIx bid 0 x)) ∧ Below w.heap.size w w' := by
  go_enter Trym.func27, Trym.ntmps27
  go_wp2
  refine wp_loop_rounds 1 ?_
  rw [rounds_succ]
  go_wp2
  go_ret
  exact ⟨rfl, (Below.refl _ _).alloc (Nat.le_refl _) _⟩

/-- A slice of base entries. -/
def BasesV (w : World) (v : Value) (n : Nat) (bid : Nat → List UInt8) (tv : Nat → Value) : Prop := SlV w v n 21 (fun i => ent (bid i) (tv i)) ∧ ∀ i, i < n → (bid i).length = 20

theorem baseIdx_any (v : Value) (n : Nat) (bid : Nat → List UInt8) (tv : Nat → Value) (x : List UInt8) (w : World) (hlen : n ≤ 4096) (hx : x.length = 20) (h : BasesV w v n bid tv) :
    Calls Trym.prog 27 #[v, .agg (idc x).toArray] w fun e w' => e = .returned (.int .i64 (baseIx bid n x)) ∧ Below w.heap.size w w' := by
  obtain ⟨⟨rfl, rfl⟩ | ⟨b, off, cap, rfl, hr⟩, hl⟩ := h
  · exact baseIdx_nil bid x w
  · exact baseIdx_some b off n cap bid tv x w hlen hx hl hr

end Go.Proofs.Qxb6601415aMods
