import Derived.Test.Qxb6601415aModsN
import Derived.Lib.LazyBuf
namespace Go.Proofs.Qxb6601415aMods
open Go.RowKit Go.Extern.Stop
set_option linter.unusedVariables false
set_option linter.unusedSimpArgs false
set_option maxRecDepth 20000

/-- Block g is a row of m cells that may be written. -/
def WB (w : World) (g : Nat) (e : TypeId) (m : Nat) : Prop := ∃ F, w.rowIs g e m F
theorem WB.there {w : World} {g : Nat} {e : TypeId} {m o c : Nat} (h : WB w g e m) (hm : o + c ≤ m) : w.there g o c := fun j hj => by
  obtain ⟨F, hF⟩ := h
  exact ⟨by rw [hF.cell (i := o + j) (by omega)]; rfl, hF.frozen _⟩
theorem WB.setCells {w : World} {g : Nat} {e : TypeId} {m : Nat} (h : WB w g e m) (o : Nat) (vs : List Value) : WB (w.setCells g o vs) g e m := by
  obtain ⟨F, hF⟩ := h
  exact ⟨_, rowIs_setCells vs o w F hF⟩
theorem WB.setOther {w : World} {g g' : Nat} {e : TypeId} {m : Nat} (h : WB w g e m) (hne : g ≠ g') (o : Nat) (vs : List Value) : WB (w.setCells g' o vs) g e m := by
  obtain ⟨F, hF⟩ := h
  exact ⟨_, rowIs_setCells_other hne vs o w hF⟩
theorem WB.lt {w : World} {g : Nat} {e : TypeId} {m : Nat} (h : WB w g e m) : g < w.heap.size := h.choose_spec.lt
theorem WB.below {B g : Nat} {e : TypeId} {m : Nat} {w w' : World} (h : WB w g e m) (hB : Below B w w') (hg : g < B) : WB w' g e m := by
  obtain ⟨F, hF⟩ := h
  exact ⟨F, hF.of_block (hB.block g hg)⟩
theorem WB.alloc {w : World} {g : Nat} {e : TypeId} {m : Nat} (h : WB w g e m) (o : Obj) : WB (w.alloc o) g e m := ⟨_, h.choose_spec.alloc o⟩
theorem WB_new (w : World) (C : Array Value) (e : TypeId) {m : Nat} (h : C.size = m) : WB (w.alloc (.cells C e)) w.heap.size e m := by
  subst h
  exact ⟨fun i => C[i]?.getD default, World.rowIs_alloc w C e _ (fun i hi => by simp [hi])⟩
/-- One element more. -/
theorem WRow.snoc {w : World} {g : Nat} {e : TypeId} {m k sz : Nat} {f : Nat → List Value} (h : WRow w g 0 k sz f) (hb : WB w g e m) (hm : (k + 1) * sz ≤ m) (hf : ∀ i, i < k + 1 → (f i).length = sz) : WRow (w.setCells g (0 + k * sz) (f k)) g 0 (k + 1) sz f := fun i hi => by
  have e1 : (k + 1) * sz = k * sz + sz := Nat.succ_mul k sz
  by_cases h2 : i < k
  · refine World.rangeAt_setCells_apart (h i h2) _ _ _ (.inr (.inl ?_))
    rw [hf i (by omega)]
    have : (i + 1) * sz ≤ k * sz := Nat.mul_le_mul_right _ h2
    rw [Nat.succ_mul] at this
    omega
  · have : i = k := by omega
    subst this
    exact World.rangeAt_setCells_same _ _ _ _ (hb.there (by rw [hf i (by omega)]; omega))
theorem WRow.apart {w : World} {b off n sz g o : Nat} {f : Nat → List Value} {vs : List Value} (h : WRow w b off n sz f) (hne : b ≠ g) : WRow (w.setCells g o vs) b off n sz f := fun i hi => World.rangeAt_setCells_apart (h i hi) _ _ _ (.inl hne)

theorem make_wide {T E sz : Nat} {by' : Nat} (ht : Trym.prog.underlying T = some (.slice E)) (hi : (Trym.prog.info? E).map (fun i => (i.zero.isSome, i.size, i.bytes)) = some (true, sz, by')) (hby : by' ≤ 1000) (len : Nat) (hlen : len ≤ 100000000) :
    ∃ C : Array Value, C.size = len * sz ∧ ∀ w : World, (Instr.makeSlice T (.int .i64 len) (.int .i64 len)).run Trym.prog w = .ok (.slice (some ⟨w.heap.size, 0, none⟩) len len) (w.alloc (.cells C E)) := by
  obtain ⟨i, hi1, hi2⟩ := Option.map_eq_some_iff.1 hi
  obtain ⟨z, hz⟩ := Option.isSome_iff_exists.1 (show i.zero.isSome = true from (Prod.mk.inj hi2).1)
  have hs : i.size = sz := (Prod.mk.inj (Prod.mk.inj hi2).2).1
  have hb : i.bytes = by' := (Prod.mk.inj (Prod.mk.inj hi2).2).2
  refine ⟨madeCells z.cells (len * sz), size_madeCells _ _, fun w => ?_⟩
  have hm : ((by' : Nat) : Int) * (len : Int) ≤ 1000 * 100000000 := Int.mul_le_mul (by omega) (by omega) (by omega) (by omega)
  have := run_make (P := Trym.prog) (w := w) T E i z ht hi1 hz .i64 .i64 len len (by omega) (Int.le_refl _) (by rw [hb]; omega) (by omega)
  simpa [hs] using this

theorem f34 : (Trym.prog.info? 34).map (fun i => (i.zero.isSome, i.size, i.bytes)) = some (true, 20, 20) := by kernel_rfl
theorem f70 : (Trym.prog.info? 70).map (fun i => (i.zero.isSome, i.size, i.bytes)) = some (true, 20, 20) := by kernel_rfl
theorem f77 : (Trym.prog.info? 77).map (fun i => (i.zero.isSome, i.size, i.bytes)) = some (true, 21, 32) := by kernel_rfl
theorem f60 : (Trym.prog.info? 60).map (fun i => (i.zero.isSome, i.size, i.bytes)) = some (true, 43, 64) := by kernel_rfl
theorem f91 : (Trym.prog.info? 91).map (fun i => (i.zero.isSome, i.size, i.bytes)) = some (true, 43, 64) := by kernel_rfl
theorem f50 : (Trym.prog.info? 50).map (fun i => (i.zero.isSome, i.size, i.bytes)) = some (true, 21, 48) := by kernel_rfl

set_option maxHeartbeats 2000000 in
theorem cloneIDs_some (b off n cap : Nat) (f : Nat → List Value) (w : World) (hn : n ≤ 4096) (hl : ∀ i, i < n → (f i).length = 20) (h1 : ∀ i, i < n → ∀ v ∈ f i, v.oneCell' = true) (hrow : WRow w b off n 20 f) :
    Calls Trym.prog 13 #[.slice (some ⟨b, off, none⟩) n cap] w fun e w' => e = .returned (.slice (some ⟨w.heap.size, 0, none⟩) n n) ∧ WB w' w.heap.size 34 (n * 20) ∧ WRow w' w.heap.size 0 n 20 f ∧ Below w.heap.size w w' := by
  have hnil := fun W : World => Lib.run_eql_slice_nil (P := Trym.prog) W 28 34 (some ⟨b, off, none⟩) n cap 0 0 Trym.underlying28
  obtain ⟨C, hC, hmk⟩ := make_wide Trym.underlying28 f34 (by omega) n (by omega)
  have HR := hide (And.intro hrow (And.intro hl (And.intro h1 hC)))
  clear hrow hl h1 hC
  go_enter Trym.func13, Trym.ntmps13
  go_wp2
  clear hnil hmk
  go_loopw [4] (fun i wr => ∃ k : Nat, k ≤ n ∧ i = .int .i64 k ∧ WB wr w.heap.size 34 (n * 20) ∧ WRow wr w.heap.size 0 k 20 f ∧ Below w.heap.size w wr) (fun i _ => n - (intOf i).toNat)
  case atStart => exact ⟨0, Nat.zero_le _, rfl, WB_new _ _ _ HR.out.2.2.2, fun i hi => absurd hi (by omega), (Below.refl _ _).alloc (Nat.le_refl _) _⟩
  case round =>
    obtain ⟨k, hk, rfl, hwb, hout, hbel⟩ := hrel
    by_cases hlt : k < n
    · have hra := HR.out.1 k hlt
      have hlk := HR.out.2.1 k hlt
      have hbw : b < w.heap.size := rangeAt_lt hra (by rw [hlk]; omega)
      have hra1 := rangeAt_below hbel hbw hra
      have hth : wr.there w.heap.size (0 + k * 20) (f k).toArray.size := hwb.there (by rw [List.size_toArray, hlk]; omega)
      have hnx := hout.snoc hwb (by omega) (fun i hi => HR.out.2.1 i (by omega))
      have hwb2 := hwb.setCells (0 + k * 20) (f k)
      have hbel2 := below_setCells (Nat.le_refl w.heap.size) (f k) (0 + k * 20) wr hbel
      rw [Nat.zero_add] at hnx hwb2 hbel2
      have HN := hide (And.intro hnx (And.intro hwb2 hbel2))
      have HT := hide hth
      clear hra hnx hwb2 hbel2 hwb hout hbel hth
      go_upto_region 7 with fail
      refine wp_region_lexp (fun w' => w'.rangeAt b (off + k * 20) (f k)) hra1 ?_
      refine lex_mv (.slice (some ⟨w.heap.size, 0, none⟩) n n) _ rfl rfl rfl ?_
      simp only [Act.put, List.setIfInBounds_toArray, List.set_cons_zero, List.set_cons_succ]
      refine lex_mv (.int .i64 (k : Int)) _ rfl rfl rfl ?_
      simp only [Act.put, List.setIfInBounds_toArray, List.set_cons_zero, List.set_cons_succ]
      refine lex_mv (.slice (some ⟨b, off, none⟩) n cap) _ rfl rfl rfl ?_
      simp only [Act.put, List.setIfInBounds_toArray, List.set_cons_zero, List.set_cons_succ]
      refine lex_mv (.int .i64 (k : Int)) _ rfl rfl rfl ?_
      simp only [Act.put, List.setIfInBounds_toArray, List.set_cons_zero, List.set_cons_succ]
      refine lex_index 28 34 _ _ b off n cap k 20 rfl rfl rfl rfl hlt Trym.underlying28 i34 ?_
      simp only [Act.put, List.setIfInBounds_toArray, List.set_cons_zero, List.set_cons_succ]
      refine lex_load 34 _ b (off + k * 20) (f k) _ rfl rfl rfl (fun _ h => h) Trym.underlying34 rfl (by rw [i34, hlk]) ?_
      simp only [Act.put, List.setIfInBounds_toArray, List.set_cons_zero, List.set_cons_succ]
      refine lex_index 28 34 _ _ w.heap.size 0 n n k 20 rfl rfl rfl rfl hlt Trym.underlying28 i34 ?_
      simp only [Act.put, List.setIfInBounds_toArray, List.set_cons_zero, List.set_cons_succ]
      refine lex_store 34 _ _ w.heap.size (0 + k * 20) (f k).toArray rfl rfl rfl rfl rfl HT.out (by rw [i34, List.size_toArray, hlk]) (all_oneCell_toArray (HR.out.2.2.1 k hlt)) (World.rangeAt_setCells_apart hra1 _ _ _ (.inl (by omega))) ?_
      simp only [Act.put, List.setIfInBounds_toArray, List.set_cons_zero, List.set_cons_succ]
      refine lex_nil (NoPanic.normal ?_)
      clear hra1 HT hlk hbw
      go_wp2
      go_roundw
      case rel => exact ⟨k + 1, by omega, by go_num, HN.out.2.1, HN.out.1, HN.out.2.2⟩
      case measure => simp [intOf]; omega
    · have : k = n := by omega
      subst this
      have HB := hide (And.intro hwb (And.intro hout hbel))
      clear hwb hout hbel
      go_wp2
      go_ret
      exact ⟨rfl, HB.out.1, HB.out.2.1, HB.out.2.2⟩

theorem cloneIDs_nil (w : World) : Calls Trym.prog 13 #[.slice none 0 0] w fun er w' => er = .returned (.slice none 0 0) ∧ w' = w := by
  have hnil := fun W : World => Lib.run_eql_slice_nil (P := Trym.prog) W 28 34 none 0 0 0 0 Trym.underlying28
  go_enter Trym.func13, Trym.ntmps13
  go_wp2
  go_ret
  exact ⟨rfl, rfl⟩

end Go.Proofs.Qxb6601415aMods
