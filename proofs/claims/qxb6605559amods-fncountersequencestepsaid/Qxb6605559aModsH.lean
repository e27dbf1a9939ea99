import Derived.Test.Qxb6605559aModsG
namespace Go.Proofs.Qxb6605559aMods
open Go.RowKit Go.Maps
set_option linter.unusedVariables false

/-- What one group header does to the map and to the count. -/
def SeqRel (D : DataW Unit) (l nd hw q : Int) (hc : Bool) (n h s : Int) (D' : DataW Unit) (l' : Int) : Prop :=
  (hc = true ∧ nd = n ∧ hw = h ∧ D' = D ∧ l' = (l + lostF q s) % 18446744073709551616) ∨
  (¬ (hc = true ∧ nd = n ∧ hw = h) ∧ ((hc = true ∧ Remembered D nd hw q D') ∨ (hc = false ∧ D' = D)) ∧ l' = if Maps.has D' (sk n h) = true then (l + lostF (numAt D' (sk n h)) s) % 18446744073709551616 else l)

theorem Kp.lst {a c : World} {S : Nat → Prop} (hk : Kp a c S) {mv : Value} {D : DataW Unit} (h : Lst a mv D) (hS : ∀ i, mv = .map (some i) → ¬ S i) : Lst c mv D := by
  rcases h with h | ⟨bl, rfl, ho⟩
  · exact Or.inl h
  · exact Or.inr ⟨bl, rfl, hk.owns ho (hS bl rfl)⟩

theorem lst_ne {w : World} {b : Nat} {r t m u p l e : Int} {mv mv' : Value} {nd hw sq : Int} {hc : Bool} {D : DataW Unit} (h : Ctr w b r t m u p l e mv' nd hw sq hc) (hl : Lst w mv D) {i : Nat} (e1 : mv = .map (some i)) : i ≠ b := by
  rcases hl with ⟨rfl, _⟩ | ⟨bl, rfl, ho⟩
  · cases e1
  · cases e1
    exact (ctr_ne_own h ho).symm

def SeqPost (w : World) (b : Nat) (r t m u p l e : Int) (mv : Value) (nd hw q : Int) (hc : Bool) (D : DataW Unit) (h s n : Int) (w' : World) : Prop :=
  ∃ mv' D' l', SeqRel D l nd hw q hc n h s D' l' ∧ Ctr w' b r t m u p l' e mv' n h s true ∧ Lst w' mv' D' ∧ (∀ i, mv' = .map (some i) → mv = .map (some i) ∨ w.heap.size ≤ i) ∧ Kp w w' (fun i => i = b ∨ mv = .map (some i))

theorem sequence_any (b : Nat) (r t m u p l e : Int) (mv : Value) (nd hw q : Int) (hc : Bool) (D : DataW Unit) (v h s n : Int) (w : World) (hctr : Ctr w b r t m u p l e mv nd hw q hc) (hl : Lst w mv D)
    (hs1 : Maps.size D < 4294967296)
    (hn : (Lit.int .u32 n).wf = true) (hh : (Lit.int .u8 h).wf = true) (hs : (Lit.int .u32 s).wf = true) (hnd : (Lit.int .u32 nd).wf = true) (hhw : (Lit.int .u8 hw).wf = true) (hq : (Lit.int .u32 q).wf = true) :
    Calls Trym.prog 28 #[.pointer (some ⟨b, 0, none⟩), .agg #[.int .u8 v, .int .u8 h, .int .u32 s, .int .u32 n]] w fun er w' => er = .returned (.tuple #[]) ∧ SeqPost w b r t m u p l e mv nd hw q hc D h s n w' := by
  obtain ⟨s0, s1⟩ := u32_bd hs
  obtain ⟨q0, q1⟩ := u32_bd hq
  have hno : ∀ i, mv = .map (some i) → ¬ i = b := fun i e => lst_ne hctr hl e
  cases hc
  · cases hhas : Maps.has D (sk n h)
    · refine (seq_first_no b r t m u p l e mv nd hw q D v h s n w hctr hl hhas hn hh s0 s1).mono ?_
      rintro er w' ⟨rfl, h1, h2⟩
      exact ⟨rfl, mv, D, l, Or.inr ⟨by simp, Or.inr ⟨rfl, rfl⟩, by rw [if_neg (by rw [hhas]; decide)]⟩, h1, h2.lst hl hno, fun i e => Or.inl e, h2.mono (fun i _ e => Or.inl e)⟩
    · obtain ⟨d0, d1⟩ := lst_num hl hn hh
      refine (seq_first_yes b r t m u p l e mv nd hw q D v h s n w hctr hl hhas d0 d1 hn hh s0 s1).mono ?_
      rintro er w' ⟨rfl, h1, h2⟩
      exact ⟨rfl, mv, D, _, Or.inr ⟨by simp, Or.inr ⟨rfl, rfl⟩, by rw [if_pos hhas]⟩, h1, h2.lst hl hno, fun i e => Or.inl e, h2.mono (fun i _ e => Or.inl e)⟩
  · by_cases hsame : nd = n ∧ hw = h
    · obtain ⟨rfl, rfl⟩ := hsame
      refine (seq_same b r t m u p l e mv nd hw q v s w hctr q0 q1 s0 s1).mono ?_
      rintro er w' ⟨rfl, h1, h2⟩
      exact ⟨rfl, mv, D, _, Or.inl ⟨rfl, rfl, rfl, rfl, rfl⟩, h1, h2.lst hl hno, fun i e => Or.inl e, h2.mono (fun i _ e => Or.inl e)⟩
    · have hne : (n == nd && h == hw) = false := by
        cases e : (n == nd && h == hw)
        · rfl
        · simp at e
          exact absurd ⟨e.1.symm, e.2.symm⟩ hsame
      refine (seq_other b r t m u p l e mv nd hw q D v h s n w hctr hl hs1 hne hn hh hnd hhw hq s0 s1).mono ?_
      rintro er w' ⟨rfl, bl, D', h1, h2, h3, h4, h5⟩
      exact ⟨rfl, .map (some bl), D', _, Or.inr ⟨by simpa using hsame, Or.inl ⟨rfl, h1⟩, rfl⟩, h2, Or.inr ⟨bl, rfl, h3⟩, fun i e => by cases e; exact h4, h5⟩

theorem zzSequence_any (b : Nat) (r t m u p l e : Int) (mv : Value) (nd hw q : Int) (hc : Bool) (D : DataW Unit) (v h s n : Int) (w : World) (hctr : Ctr w b r t m u p l e mv nd hw q hc) (hl : Lst w mv D)
    (hs1 : Maps.size D < 4294967296)
    (hn : (Lit.int .u32 n).wf = true) (hh : (Lit.int .u8 h).wf = true) (hs : (Lit.int .u32 s).wf = true) (hnd : (Lit.int .u32 nd).wf = true) (hhw : (Lit.int .u8 hw).wf = true) (hq : (Lit.int .u32 q).wf = true) :
    Calls Trym.prog 10 #[.pointer (some ⟨b, 0, none⟩), .agg #[.int .u8 v, .int .u8 h, .int .u32 s, .int .u32 n]] w fun er w' => er = .returned (.tuple #[]) ∧ SeqPost w b r t m u p l e mv nd hw q hc D h s n w' := by
  have HC : Hid (Ctr w b r t m u p l e mv nd hw q hc) := hctr
  have HL : Hid (Lst w mv D) := hl
  clear hctr hl
  go_enter Trym.func10, Trym.ntmps10
  go_wp2_with fail
  refine (sequence_any b r t m u p l e mv nd hw q hc D v h s n _ (HC.out.alloc _) (HL.out.alloc _) hs1 hn hh hs hnd hhw hq).mono ?_
  rintro er w' ⟨rfl, mv', D', l', h1, h2, h3, h4, h5⟩
  have FI : Hid (SeqPost w b r t m u p l e mv nd hw q hc D h s n w') := ⟨mv', D', l', h1, h2, h3, (fun i e => by rcases h4 i e with h | h; exact Or.inl h; exact Or.inr (by simp at h; omega)), ((Kp.refl w _).alloc _).trans h5⟩
  clear h1 h2 h3 h4 h5
  go_wp2
  go_end0
  exact ⟨rfl, FI.out⟩

end Go.Proofs.Qxb6605559aMods
