import Derived.Test.Qxb6605559aModsN
namespace Go.Proofs.Qxb6605559aMods
open Go.RowKit Go.Maps
set_option linter.unusedVariables false

/-- The Counter's map and the law's own, both filled from the first k entries. -/
structure EntInv (en eh : Nat → Int) (k : Nat) (D DM : DataW Unit) : Prop where
  tD : Tidy D
  tM : Tidy DM
  sz : Maps.size D = Maps.size DM
  le : Maps.size D ≤ k
  agree : ∀ n h, (Lit.int .u32 n).wf = true → (Lit.int .u8 h).wf = true → Maps.has D (sk n h) = Maps.has DM (k64 n h) ∧ numAt D (sk n h) = numAt DM (k64 n h)
  all : ∀ i, i < k → Maps.has DM (k64 (en i) (eh i)) = true
  came : ∀ n h, (Lit.int .u32 n).wf = true → (Lit.int .u8 h).wf = true → Maps.has D (sk n h) = true → ∃ i, i < k ∧ en i = n ∧ eh i = h

theorem entInv_start (en eh : Nat → Int) : EntInv en eh 0 (.map []) (.map []) where
  tD := tidy_empty
  tM := tidy_empty
  sz := rfl
  le := by decide
  agree := fun n h _ _ => ⟨rfl, rfl⟩
  all := fun i h => by omega
  came := fun n h _ _ e => by cases e

theorem entInv_step {en eh : Nat → Int} {k : Nat} {D DM : DataW Unit} (I : EntInv en eh k D DM) (hn : (Lit.int .u32 (en k)).wf = true) (hh : (Lit.int .u8 (eh k)).wf = true) (s : Int) :
    EntInv en eh (k + 1) (D.put (sk (en k) (eh k)) (.lit (.int .u32 s))) (DM.put (k64 (en k) (eh k)) (.lit (.int .u32 s))) := by
  have hkM : ∀ n h, WideAt.IsKeyLit (k64 n h) := fun _ _ => trivial
  have hkD : ∀ n h, WideAt.IsKeyLit (sk n h) := fun _ _ => trivial
  have hle := I.le
  have hsz := I.sz
  refine ⟨I.tD.put (hkD _ _) _, I.tM.put (hkM _ _) _, ?_, ?_, ?_, ?_, ?_⟩
  · rw [size_put I.tD, size_put I.tM, (I.agree _ _ hn hh).1, hsz]
  · rw [size_put I.tD]; split <;> omega
  · intro n h wn wh
    by_cases e : n = en k ∧ h = eh k
    · obtain ⟨rfl, rfl⟩ := e
      rw [has_put_same I.tD.isMap (hkD _ _), has_put_same I.tM.isMap (hkM _ _), numAt_put_same I.tD.isMap (hkD _ _), numAt_put_same I.tM.isMap (hkM _ _)]
      exact ⟨rfl, rfl⟩
    · have e1 : sk n h ≠ sk (en k) (eh k) := fun x => e (sk_inj wn wh hn hh x)
      have e2 : k64 n h ≠ k64 (en k) (eh k) := fun x => e (k64_inj wh hh x)
      rw [has_put_other e1, has_put_other e2, numAt_put_other e1, numAt_put_other e2]
      exact I.agree n h wn wh
  · intro i hi
    by_cases e : k64 (en i) (eh i) = k64 (en k) (eh k)
    · rw [e, has_put_same I.tM.isMap (hkM _ _)]
    · rw [has_put_other e]
      by_cases e2 : i = k
      · subst e2; exact absurd rfl e
      · exact I.all i (by omega)
  · intro n h wn wh hx
    by_cases e : n = en k ∧ h = eh k
    · exact ⟨k, by omega, e.1.symm, e.2.symm⟩
    · have e1 : sk n h ≠ sk (en k) (eh k) := fun x => e (sk_inj wn wh hn hh x)
      rw [has_put_other e1] at hx
      obtain ⟨i, hi, a, b⟩ := I.came n h wn wh hx
      exact ⟨i, by omega, a, b⟩

/-- A State as it is handed over. -/
abbrev stV (a : Option Addr) (len cap : Nat) (nm : Bool) (r t m u p l e cn ch cs : Int) (hc : Bool) : Value :=
  .agg #[.slice a len cap, .bool nm, .int .u64 r, .int .u64 t, .int .u64 m, .int .u64 u, .int .u64 p, .int .u64 l, .int .u64 e, .int .u32 cn, .int .u8 ch, .int .u32 cs, .bool hc]

/-- What 'build' leaves. -/
def Built (w : World) (en eh : Nat → Int) (k : Nat) (r t m u p l e cn ch cs : Int) (hc : Bool) (bc bo : Nat) (w' : World) : Prop :=
  ∃ mv D DM, Ctr w' bc r t m u p l e mv cn ch cs hc ∧ Lst w' mv D ∧ OwnM w' bo DM ∧ EntInv en eh k D DM ∧ w.heap.size ≤ bc ∧ bc < bo ∧ (∀ i, mv = .map (some i) → w.heap.size ≤ i ∧ i < bc) ∧ Below w.heap.size w w'

theorem newCounter_abs (r t m u p l e cn ch cs : Int) (hc : Bool) (w : World) :
    Calls Trym.prog 24 #[.agg #[.int .u64 r, .int .u64 t, .int .u64 m, .int .u64 u, .int .u64 p, .int .u64 l, .int .u64 e], .int .u32 cn, .int .u8 ch, .int .u32 cs, .bool hc] w fun er w' =>
      er = .returned (.pointer (some ⟨w.heap.size + 2, 0, none⟩)) ∧ Ctr w' (w.heap.size + 2) r t m u p l e (.map (some (w.heap.size + 1))) cn ch cs hc ∧ Own w' (w.heap.size + 1) (.map []) ∧ Below w.heap.size w w' := by
  refine (newCounter_any r t m u p l e cn ch cs hc w).mono ?_
  rintro er w' ⟨rfl, rfl⟩
  refine ⟨rfl, ?_, ?_, (((Below.refl _ _).alloc (Nat.le_refl _) _).alloc (by simp) _).alloc (by simp; omega) _⟩
  · have := (MapKept.heap_alloc ((w.alloc (.cells #[.int .u64 r, .int .u64 t, .int .u64 m, .int .u64 u, .int .u64 p, .int .u64 l, .int .u64 e] 51)).alloc (.map #[] 0)) (.cells #[.int .u64 r, .int .u64 t, .int .u64 m, .int .u64 u, .int .u64 p, .int .u64 l, .int .u64 e, .map (some (w.heap.size + 1)), .int .u32 cn, .int .u8 ch, .int .u32 cs, .bool hc] 60)).1
    unfold Ctr
    simpa using this
  · refine own_alloc ?_ _
    have : Own ((w.alloc (.cells #[.int .u64 r, .int .u64 t, .int .u64 m, .int .u64 u, .int .u64 p, .int .u64 l, .int .u64 e] 51)).alloc (.map #[] 0)) (w.alloc (.cells #[.int .u64 r, .int .u64 t, .int .u64 m, .int .u64 u, .int .u64 p, .int .u64 l, .int .u64 e] 51)).heap.size (.map []) := World.ownsMap_made (H := Unit) _ Trym.prog 58 (plainElem Trym.prog 26)
    simpa using this

theorem bcell {W w1 : World} (hb : Below W.heap.size W w1) : (∀ b o, b < W.heap.size → w1.cell? ⟨b, o, none⟩ = W.cell? ⟨b, o, none⟩) ∧ (∀ b o, b < W.heap.size → w1.frozen? ⟨b, o, none⟩ = W.frozen? ⟨b, o, none⟩) :=
  ⟨fun b o h => hb.cell (p := ⟨b, o, none⟩) h, fun b o h => hb.frozen (p := ⟨b, o, none⟩) h⟩

set_option maxHeartbeats 1000000 in
theorem build_nil (a : Option Addr) (len cap : Nat) (r t m u p l e cn ch cs : Int) (hc : Bool) (en eh : Nat → Int) (w : World) :
    Calls Trym.prog 8 #[stV a len cap true r t m u p l e cn ch cs hc] w fun er w' => ∃ bc bo, er = .returned (.tuple #[.pointer (some ⟨bc, 0, none⟩), .map (some bo), .slice none 0 0]) ∧ Built w en eh 0 r t m u p l e cn ch cs hc bc bo w' := by
  have hmm := @run_makeMap Trym.prog
  go_enter Trym.func8, Trym.ntmps8
  go_wp2
  go_region_held3 (fun w' => w'.cell? ⟨w.heap.size, 2, none⟩ = some (.int .u64 r) ∧ w'.cell? ⟨w.heap.size, 3, none⟩ = some (.int .u64 t) ∧ w'.cell? ⟨w.heap.size, 4, none⟩ = some (.int .u64 m) ∧ w'.cell? ⟨w.heap.size, 5, none⟩ = some (.int .u64 u) ∧ w'.cell? ⟨w.heap.size, 6, none⟩ = some (.int .u64 p) ∧ w'.cell? ⟨w.heap.size, 7, none⟩ = some (.int .u64 l) ∧ w'.cell? ⟨w.heap.size, 8, none⟩ = some (.int .u64 e) ∧
      w'.cell? ⟨w.heap.size, 9, none⟩ = some (.int .u32 cn) ∧ w'.cell? ⟨w.heap.size, 10, none⟩ = some (.int .u8 ch) ∧ w'.cell? ⟨w.heap.size, 11, none⟩ = some (.int .u32 cs) ∧ w'.cell? ⟨w.heap.size, 12, none⟩ = some (.bool hc))
    (first | (simp [go_sem, World.cell?_alloc_past]; done) | (simp [go_sem, World.cell?_alloc_past, hcc]; done))
    (first
      | (go_at_call 25; refine (toStats_any r t m u p l e _).mono ?_; rintro er w' ⟨rfl, rfl⟩)
      | (go_at_call 24; refine (newCounter_abs r t m u p l e cn ch cs hc _).mono ?_; rintro er w1 ⟨rfl, hctr, ho, hb⟩; have hcc := (bcell hb).1))
  obtain ⟨bc, bl, hbc, F⟩ : ∃ bc bl, bc = w.heap.size + 1 + 1 + 1 + 2 ∧ Hid (Ctr w1 bc r t m u p l e (.map (some bl)) cn ch cs hc ∧ Own w1 bl (.map []) ∧ Below w.heap.size w w1 ∧ w.heap.size < bl ∧ bl < bc) := by
    refine ⟨_, w.heap.size + 1 + 1 + 1 + 1, rfl, ?_, ?_, ?_, by omega, by omega⟩
    · simpa using hctr
    · simpa using ho
    · have hb' := hb.mono (B' := w.heap.size) (by simp; omega)
      refine Below.trans ?_ hb'
      exact ((((Below.refl _ _).alloc (Nat.le_refl _) _).alloc (by simp) _).alloc (by simp; omega) _).drew
  rw [← hbc]
  have c1 : w1.cell? ⟨w.heap.size, 1, none⟩ = some (.bool true) := by rw [hcc _ _ (by simp; omega)]; simp [go_sem, World.cell?_alloc_past]
  have hz : bc < w1.heap.size := F.out.1.lt
  have hz0 : w.heap.size < w1.heap.size := by have := F.out.2.2.2; omega
  clear hctr ho hb hcc hbc
  go_wp2_with fail
  refine (nilLast_any bc r t m u p l e (.map (some bl)) cn ch cs hc _ (F.out.1.alloc _)).mono ?_
  rintro er w2 ⟨rfl, hC, hK⟩
  have R : Hid (Built w en eh 0 r t m u p l e cn ch cs hc bc w1.heap.size w2) := by
    refine ⟨.map none, .map [], .map [], hC, Or.inl ⟨rfl, rfl⟩, hK.ownM (ownM_made w1) (by omega), entInv_start en eh, by have := F.out.2.2.2; omega, hz, (fun i e => by cases e), ?_⟩
    exact Kp.toBelow (F.out.2.2.1.alloc F.out.2.2.1.size _) hK (by have := F.out.2.2.1.size; simp; omega) (fun i hi e => by have := F.out.2.2.2; omega)
  clear hC hK
  go_wp2
  go_ret3
  exact ⟨bc, _, rfl, R.out⟩

end Go.Proofs.Qxb6605559aMods
