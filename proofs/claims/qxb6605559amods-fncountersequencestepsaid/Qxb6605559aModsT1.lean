import Derived.Test.Qxb6605559aModsS
namespace Go.Proofs.Qxb6605559aMods
open Go.RowKit Go.Maps
set_option linter.unusedVariables false

theorem key_eq_iff {n h n' h' : Int} (hh : (Lit.int .u8 h).wf = true) (hh' : (Lit.int .u8 h').wf = true) : n * 256 + h = n' * 256 + h' ↔ n = n' ∧ h = h' := by
  have a := u8_bd hh
  have b := u8_bd hh'
  omega

/-- What 'remember' does to the map, told in the law's own words. -/
structure RemLaw (en eh : Nat → Int) (k : Nat) (D' DM : DataW Unit) (n h q : Int) (fn fh : Int) : Prop where
  tD : Tidy D'
  got : Maps.has D' (sk n h) = true ∧ numAt D' (sk n h) = q
  size : Maps.size D' = if Maps.has DM (k64 n h) = true ∨ 65536 ≤ Maps.size DM then Maps.size DM else Maps.size DM + 1
  each : Each en eh true (n * 256 + h) D' DM fn fh k
  yes : Maps.has DM (k64 n h) = false → 65536 ≤ Maps.size DM → goneP en eh true (n * 256 + h) D' k
  no : ¬ (Maps.has DM (k64 n h) = false ∧ 65536 ≤ Maps.size DM) → ¬ goneP en eh true (n * 256 + h) D' k
  other : ∀ n' h', (Lit.int .u32 n').wf = true → (Lit.int .u8 h').wf = true → Maps.has D' (sk n' h') = true → ¬ (n' = n ∧ h' = h) → Maps.has DM (k64 n' h') = true ∧ numAt D' (sk n' h') = numAt DM (k64 n' h')

theorem remLaw {en eh : Nat → Int} {k : Nat} {D DM D' : DataW Unit} {n h q : Int} (I : EntInv en eh k D DM) (hwf : ∀ i, i < k → (Lit.int .u32 (en i)).wf = true ∧ (Lit.int .u8 (eh i)).wf = true)
    (hn : (Lit.int .u32 n).wf = true) (hh : (Lit.int .u8 h).wf = true) (R : Remembered D n h q D') : ∃ fn fh, RemLaw en eh k D' DM n h q fn fh := by
  have hkD : ∀ n h, WideAt.IsKeyLit (sk n h) := fun _ _ => trivial
  obtain ⟨a1, a2⟩ := I.agree n h hn hh
  have hsz := I.sz
  rcases R with ⟨hroom, rfl⟩ | ⟨hfull, hnot, n', h', wn', wh', hthere, rfl⟩
  · have third : ∀ i, i < k → skipP en eh true (n * 256 + h) i ∨ (Maps.has (D.put (sk n h) (.lit (.int .u32 q))) (sk (en i) (eh i)) = true ∧ numAt (D.put (sk n h) (.lit (.int .u32 q))) (sk (en i) (eh i)) = numAt DM (k64 (en i) (eh i))) := by
      intro i hi
      obtain ⟨wn, wh⟩ := hwf i hi
      by_cases e : en i = n ∧ eh i = h
      · exact Or.inl ⟨rfl, (key_eq_iff wh hh).2 e⟩
      · have e1 : sk (en i) (eh i) ≠ sk n h := fun x => e (sk_inj wn wh hn hh x)
        obtain ⟨b1, b2⟩ := I.agree _ _ wn wh
        rw [has_put_other e1, numAt_put_other e1, b1, b2]
        exact Or.inr ⟨I.all i hi, rfl⟩
    refine ⟨0, 0, I.tD.put (hkD _ _) _, ⟨has_put_same I.tD.isMap (hkD _ _) _, numAt_put_same I.tD.isMap (hkD _ _) _⟩, ?_, ?_, ?_, ?_, ?_⟩
    · rw [size_put I.tD, a1, hsz]
      by_cases c : Maps.has DM (k64 n h) = true
      · rw [if_pos c, if_pos (Or.inl c)]
      · rw [if_neg c, if_neg]
        rintro (x | x)
        · exact c x
        · rcases hroom with y | y
          · omega
          · rw [a1] at y; exact c y
    · intro i hi
      rcases third i hi with x | x
      · exact Or.inl x
      · exact Or.inr (Or.inr x)
    · intro x y
      rcases hroom with z | z
      · omega
      · rw [a1, x] at z; cases z
    · rintro _ ⟨i, hi, x, y⟩
      rcases third i hi with z | ⟨z, _⟩
      · exact x z
      · rw [z] at y; cases y
    · intro n1 h1 w1 w2 hx hne
      have e1 : sk n1 h1 ≠ sk n h := fun x => hne (sk_inj w1 w2 hn hh x)
      obtain ⟨b1, b2⟩ := I.agree _ _ w1 w2
      rw [has_put_other e1, b1] at hx
      rw [numAt_put_other e1, b2]
      exact ⟨hx, rfl⟩
  · have hnf : ¬ (n' = n ∧ h' = h) := fun ⟨x, y⟩ => by rw [x, y, hnot] at hthere; cases hthere
    have e0 : sk n' h' ≠ sk n h := fun x => hnf (sk_inj wn' wh' hn hh x)
    have tdel := I.tD.del (sk n' h')
    have each : ∀ i, i < k → skipP en eh true (n * 256 + h) i ∨ (Maps.has ((D.del (sk n' h')).put (sk n h) (.lit (.int .u32 q))) (sk (en i) (eh i)) = false ∧ en i = n' ∧ eh i = h') ∨
        (Maps.has ((D.del (sk n' h')).put (sk n h) (.lit (.int .u32 q))) (sk (en i) (eh i)) = true ∧ numAt ((D.del (sk n' h')).put (sk n h) (.lit (.int .u32 q))) (sk (en i) (eh i)) = numAt DM (k64 (en i) (eh i))) := by
      intro i hi
      obtain ⟨wn, wh⟩ := hwf i hi
      by_cases e : en i = n ∧ eh i = h
      · exact Or.inl ⟨rfl, (key_eq_iff wh hh).2 e⟩
      · have e1 : sk (en i) (eh i) ≠ sk n h := fun x => e (sk_inj wn wh hn hh x)
        rw [has_put_other e1, numAt_put_other e1]
        by_cases f : en i = n' ∧ eh i = h'
        · obtain ⟨f1, f2⟩ := f
          refine Or.inr (Or.inl ⟨?_, f1, f2⟩)
          rw [f1, f2]
          exact has_del_same
        · have e2 : sk (en i) (eh i) ≠ sk n' h' := fun x => f (sk_inj wn wh wn' wh' x)
          obtain ⟨b1, b2⟩ := I.agree _ _ wn wh
          rw [has_del_other e2, numAt_del_other e2, b1, b2]
          exact Or.inr (Or.inr ⟨I.all i hi, rfl⟩)
    refine ⟨n', h', tdel.put (hkD _ _) _, ⟨has_put_same tdel.isMap (hkD _ _) _, numAt_put_same tdel.isMap (hkD _ _) _⟩, ?_, each, ?_, ?_, ?_⟩
    · have s1 := size_del (k := sk n' h') I.tD
      rw [if_pos hthere] at s1
      rw [size_put tdel, has_del_other (fun x => e0 x.symm), hnot, if_pos (Or.inr (by omega))]
      simp only [Bool.false_eq_true, if_false]
      omega
    · intro _ _
      obtain ⟨i, hi, x, y⟩ := I.came n' h' wn' wh' hthere
      obtain ⟨wn, wh⟩ := hwf i hi
      refine ⟨i, hi, fun z => ?_, ?_⟩
      · have := (key_eq_iff wh hh).1 z.2
        rw [x, y] at this
        exact hnf this
      · have e1 : sk (en i) (eh i) ≠ sk n h := fun z => by rw [x, y] at z; exact e0 z
        rw [has_put_other e1, x, y]
        exact has_del_same
    · intro z
      exact absurd ⟨by rw [← a1]; exact hnot, by omega⟩ z
    · intro n1 h1 w1 w2 hx hne
      have e1 : sk n1 h1 ≠ sk n h := fun x => hne (sk_inj w1 w2 hn hh x)
      rw [has_put_other e1] at hx
      by_cases f : n1 = n' ∧ h1 = h'
      · obtain ⟨rfl, rfl⟩ := f
        rw [has_del_same] at hx
        cases hx
      · have e2 : sk n1 h1 ≠ sk n' h' := fun x => f (sk_inj w1 w2 wn' wh' x)
        obtain ⟨b1, b2⟩ := I.agree _ _ w1 w2
        rw [has_del_other e2, b1] at hx
        rw [numAt_put_other e1, numAt_del_other e2, b2]
        exact ⟨hx, rfl⟩

end Go.Proofs.Qxb6605559aMods
