import Derived.Test.Qxb6605559aModsI
namespace Go.Proofs.Qxb6605559aMods
open Go.RowKit Go.Maps
set_option linter.unusedVariables false

/-- What the law's own key reads as. -/
def k64 (n h : Int) : Lit := .int .u64 (n * 256 + h)
theorem k64_inj {n h n' h' : Int} (hh : (Lit.int .u8 h).wf = true) (hh' : (Lit.int .u8 h').wf = true) (e : k64 n h = k64 n' h') : n = n' ∧ h = h' := by
  have a := u8_bd hh
  have b := u8_bd hh'
  simp [k64] at e
  omega
theorem u64_wf {c : Int} (h0 : 0 ≤ c) (h1 : c ≤ 18446744073709551615) : (Lit.int .u64 c).wf = true := by
  simp [Lit.wf, IntKind.min, IntKind.max, IntKind.signed, IntKind.bits]; omega
theorem k64_key {n h : Int} (hn : (Lit.int .u32 n).wf = true) (hh : (Lit.int .u8 h).wf = true) : keyOf Trym.prog 23 (.int .u64 (n * 256 + h)) = some (k64 n h) := by
  have a := u8_bd hh
  have b := u32_bd hn
  exact keyOf_int_mk Trym.underlying23 (u64_wf (by omega) (by omega))

theorem numAt_put_same {D : DataW Unit} {k : Lit} (hD : IsMap D) (hk : WideAt.IsKeyLit k) (x : Int) : numAt (D.put k (.lit (.int .u32 x))) k = x := by
  unfold numAt; rw [atKey_put_same hD hk]
theorem numAt_put_other {D : DataW Unit} {k k' : Lit} (hne : k' ≠ k) (d : DataW Unit) : numAt (D.put k d) k' = numAt D k' := by
  unfold numAt; rw [atKey_put_other hne]
theorem numAt_del_other {D : DataW Unit} {k k' : Lit} (hne : k' ≠ k) : numAt (D.del k) k' = numAt D k' := by
  unfold numAt; rw [atKey_del_other hne]

/-- The run so far: the Counter's map and count against the law's own. -/
structure RunInv (gh gq gn : Nat → Int) (k : Nat) (L : Int) (D DM : DataW Unit) (nd hw q : Int) (hc : Bool) : Prop where
  tD : Tidy D
  tM : Tidy DM
  l0 : 0 ≤ L
  l1 : L < 18446744073709551616
  wn : (Lit.int .u32 nd).wf = true
  wh : (Lit.int .u8 hw).wf = true
  wq : (Lit.int .u32 q).wf = true
  cur : hc = true → Maps.has DM (k64 nd hw) = true ∧ numAt DM (k64 nd hw) = q
  oth : ∀ n h, (Lit.int .u32 n).wf = true → (Lit.int .u8 h).wf = true → ¬ (hc = true ∧ nd = n ∧ hw = h) → Maps.has D (sk n h) = Maps.has DM (k64 n h) ∧ numAt D (sk n h) = numAt DM (k64 n h)
  all : ∀ i, i < k → Maps.has DM (k64 (gn i) (gh i)) = true
  sz : Maps.size D + (if hc = true then 1 else 0) ≤ k
  szM : Maps.size DM ≤ k
  last : 0 < k → hc = true ∧ nd = gn (k - 1) ∧ hw = gh (k - 1) ∧ q = gq (k - 1)
  zero : k = 0 → hc = false

theorem runInv_start (gh gq gn : Nat → Int) : RunInv gh gq gn 0 0 (.map []) (.map []) 0 0 0 false where
  tD := tidy_empty
  tM := tidy_empty
  l0 := by decide
  l1 := by decide
  wn := by decide
  wh := by decide
  wq := by decide
  cur := fun h => by cases h
  oth := fun n h _ _ _ => ⟨rfl, rfl⟩
  all := fun i h => by omega
  sz := by decide
  szM := by decide
  last := fun h => by omega
  zero := fun _ => rfl

theorem remembered_room {D D' : DataW Unit} {n h q : Int} (hs : Maps.size D < 65536) (hr : Remembered D n h q D') : D' = D.put (sk n h) (.lit (.int .u32 q)) := by
  rcases hr with ⟨_, e⟩ | ⟨h1, _⟩
  · exact e
  · omega

theorem runInv_step {gh gq gn : Nat → Int} {k : Nat} {L : Int} {D DM : DataW Unit} {nd hw q : Int} {hc : Bool} (I : RunInv gh gq gn k L D DM nd hw q hc) (hk : k < 65536)
    (hn : (Lit.int .u32 (gn k)).wf = true) (hh : (Lit.int .u8 (gh k)).wf = true) (hs : (Lit.int .u32 (gq k)).wf = true) {D' : DataW Unit} {L' : Int} (R : SeqRel D L nd hw q hc (gn k) (gh k) (gq k) D' L') :
    RunInv gh gq gn (k + 1) L' D' (DM.put (k64 (gn k) (gh k)) (.lit (.int .u32 (gq k)))) (gn k) (gh k) (gq k) true ∧
      L' = if Maps.has DM (k64 (gn k) (gh k)) = true then (L + lostF (numAt DM (k64 (gn k) (gh k))) (gq k)) % 18446744073709551616 else L := by
  have hkM : ∀ n h, WideAt.IsKeyLit (k64 n h) := fun _ _ => trivial
  have hkD : ∀ n h, WideAt.IsKeyLit (sk n h) := fun _ _ => trivial
  have allM : ∀ i, i < k + 1 → Maps.has (DM.put (k64 (gn k) (gh k)) (.lit (.int .u32 (gq k)))) (k64 (gn i) (gh i)) = true := by
    intro i hi
    by_cases e : k64 (gn i) (gh i) = k64 (gn k) (gh k)
    · rw [e, has_put_same I.tM.isMap (hkM _ _)]
    · rw [has_put_other e]
      by_cases e2 : i = k
      · subst e2; exact absurd rfl e
      · exact I.all i (by omega)
  have tM' := I.tM.put (hkM (gn k) (gh k)) (.lit (.int .u32 (gq k)))
  have szM' : Maps.size (DM.put (k64 (gn k) (gh k)) (.lit (.int .u32 (gq k)))) ≤ k + 1 := by
    have h1 := I.szM
    rw [size_put I.tM]; split <;> omega
  have cur' : Maps.has (DM.put (k64 (gn k) (gh k)) (.lit (.int .u32 (gq k)))) (k64 (gn k) (gh k)) = true ∧ numAt (DM.put (k64 (gn k) (gh k)) (.lit (.int .u32 (gq k)))) (k64 (gn k) (gh k)) = gq k :=
    ⟨has_put_same I.tM.isMap (hkM _ _) _, numAt_put_same I.tM.isMap (hkM _ _) _⟩
  have hI := I.sz
  rcases R with ⟨hc1, rfl, rfl, rfl, rfl⟩ | ⟨hne, hD', hL'⟩
  · obtain ⟨c1, c2⟩ := I.cur hc1
    refine ⟨⟨I.tD, tM', by omega, by omega, hn, hh, hs, fun _ => cur', ?_, allM, ?_, szM', fun _ => ⟨rfl, rfl, rfl, rfl⟩, fun h => by omega⟩, ?_⟩
    · intro n h wn wh hno
      have e : k64 n h ≠ k64 (gn k) (gh k) := fun e => by
        obtain ⟨a, b⟩ := k64_inj wh hh e
        exact hno ⟨rfl, a.symm, b.symm⟩
      rw [has_put_other e, numAt_put_other e]
      exact I.oth n h wn wh (fun ⟨_, a, b⟩ => hno ⟨rfl, a, b⟩)
    · rw [if_pos hc1] at hI
      simp only [if_true]
      omega
    · rw [if_pos c1, c2]
  · have key : ∀ n h, (Lit.int .u32 n).wf = true → (Lit.int .u8 h).wf = true → ¬ (gn k = n ∧ gh k = h) → Maps.has D' (sk n h) = Maps.has DM (k64 n h) ∧ numAt D' (sk n h) = numAt DM (k64 n h) := by
      intro n h wn wh hno
      rcases hD' with ⟨hc1, hr⟩ | ⟨hc0, rfl⟩
      · have e := remembered_room (by rw [if_pos hc1] at hI; omega) hr
        subst e
        by_cases e : nd = n ∧ hw = h
        · obtain ⟨rfl, rfl⟩ := e
          obtain ⟨c1, c2⟩ := I.cur hc1
          rw [has_put_same I.tD.isMap (hkD _ _), numAt_put_same I.tD.isMap (hkD _ _), c1, c2]
          exact ⟨rfl, rfl⟩
        · have e1 : sk n h ≠ sk nd hw := fun e1 => by
            obtain ⟨a, b⟩ := sk_inj wn wh I.wn I.wh e1
            exact e ⟨a.symm, b.symm⟩
          rw [has_put_other e1, numAt_put_other e1]
          exact I.oth n h wn wh (fun ⟨_, a, b⟩ => e ⟨a, b⟩)
      · exact I.oth n h wn wh (fun ⟨a, _⟩ => by rw [hc0] at a; cases a)
    have keyk : Maps.has D' (sk (gn k) (gh k)) = Maps.has DM (k64 (gn k) (gh k)) ∧ numAt D' (sk (gn k) (gh k)) = numAt DM (k64 (gn k) (gh k)) := by
      rcases hD' with ⟨hc1, hr⟩ | ⟨hc0, rfl⟩
      · have e := remembered_room (by rw [if_pos hc1] at hI; omega) hr
        subst e
        have e1 : sk (gn k) (gh k) ≠ sk nd hw := fun e1 => by
          obtain ⟨a, b⟩ := sk_inj hn hh I.wn I.wh e1
          exact hne ⟨hc1, a.symm, b.symm⟩
        rw [has_put_other e1, numAt_put_other e1]
        exact I.oth _ _ hn hh hne
      · exact I.oth _ _ hn hh hne
    have tD' : Tidy D' ∧ Maps.size D' ≤ k := by
      rcases hD' with ⟨hc1, hr⟩ | ⟨hc0, rfl⟩
      · have e := remembered_room (by rw [if_pos hc1] at hI; omega) hr
        subst e
        refine ⟨I.tD.put (hkD _ _) _, ?_⟩
        rw [if_pos hc1] at hI
        rw [size_put I.tD]; split <;> omega
      · exact ⟨I.tD, by omega⟩
    have hL : L' = if Maps.has DM (k64 (gn k) (gh k)) = true then (L + lostF (numAt DM (k64 (gn k) (gh k))) (gq k)) % 18446744073709551616 else L := by rw [hL', keyk.1, keyk.2]
    have l0 := I.l0
    have l1 := I.l1
    refine ⟨⟨tD'.1, tM', ?_, ?_, hn, hh, hs, fun _ => cur', ?_, allM, ?_, szM', fun _ => ⟨rfl, rfl, rfl, rfl⟩, fun h => by omega⟩, hL⟩
    · rw [hL]; split <;> omega
    · rw [hL]; split <;> omega
    · intro n h wn wh hno
      have e : k64 n h ≠ k64 (gn k) (gh k) := fun e => by
        obtain ⟨a, b⟩ := k64_inj wh hh e
        exact hno ⟨rfl, a.symm, b.symm⟩
      rw [has_put_other e, numAt_put_other e]
      exact key n h wn wh (fun ⟨a, b⟩ => hno ⟨rfl, a, b⟩)
    · simp only [if_true]
      omega

end Go.Proofs.Qxb6605559aMods
