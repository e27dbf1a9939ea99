import Derived.Test.Qxb6605559aModsC
namespace Go.Proofs.Qxb6605559aMods
open Go.RowKit Go.Maps
set_option linter.unusedVariables false

theorem keyLits_int {P : Program} {m : Nat} {t : TypeId} {q : IntKind} (ht : P.underlying t = some (.int q)) {c : Value} {ls : List Lit} (h : P.keyLits (m + 1) t [c] = some ls) : ∃ n, c = .int q n ∧ (Lit.int q n).wf = true ∧ ls = [.int q n] := by
  unfold Program.keyLits at h
  rw [ht] at h
  cases c <;> simp at h
  obtain ⟨⟨rfl, hw⟩, rfl⟩ := h
  exact ⟨_, rfl, hw, rfl⟩

theorem sk_inv {key : Value} {kl : Lit} (hk : keyOf Trym.prog 58 key = some kl) : ∃ n h, key = .agg #[.int .u32 n, .int .u8 h] ∧ kl = sk n h ∧ (Lit.int .u32 n).wf = true ∧ (Lit.int .u8 h).wf = true := by
  obtain ⟨m, hm⟩ : ∃ m, Trym.prog.types.size = m + 1 := ⟨93, typesSize⟩
  unfold keyOf at hk
  simp only [Trym.underlying58] at hk
  split at hk
  · rename_i hc
    have hform : key.formed Trym.prog 58 = true := by simpa [keyType58] using hc
    obtain ⟨c0, c1, rfl⟩ : ∃ c0 c1, key = .agg #[c0, c1] := by
      cases key <;> simp [Value.formed, Trym.underlying58, cells58] at hform
      rename_i cs
      obtain ⟨l⟩ := cs
      match l, hform with
      | [c0, c1], _ => exact ⟨c0, c1, rfl⟩
    rw [hm] at hk
    unfold Program.keyLits at hk
    simp only [Trym.underlying58, Option.map_eq_some_iff, Value.cells] at hk
    obtain ⟨ls, h1, h2⟩ := hk
    split at h1
    · simp only [List.mapM_cons, List.mapM_nil, bind, Option.bind_eq_some_iff, pure, Option.some.injEq, Option.map_eq_some_iff, cells26, cells5, List.drop_zero, List.take_succ_cons, List.take_zero, List.drop_succ_cons] at h1
      obtain ⟨l2, ⟨a, ha, r, ⟨b, hb, r', rfl, rfl⟩, rfl⟩, rfl⟩ := h1
      obtain ⟨n, rfl, wn, rfl⟩ := keyLits_int Trym.underlying26 ha
      obtain ⟨h, rfl, wh, rfl⟩ := keyLits_int Trym.underlying5 hb
      exact ⟨n, h, rfl, h2.symm, wn, wh⟩
    · cases h1
  · cases hk

/-- A step of 'for s := range m' over a map of sources. -/
theorem wpList_next_sources {ops : Array Oper} {rest : List Oper} {o : Oper} {a : Act} {Q : Exit → Act → World → Prop} (w : World) (hg : o.guard = none) (it : Operand) (hop : o.op = Op.next it false)
    (b r n : Nat) (D : DataW Unit) (left : Lit → Bool) (cnt : Nat)
    (hit : a.eval it = .pointer (some ⟨r, 0, none⟩)) (h : w.ranges Trym.prog 58 (plainElem Trym.prog 26) b r n D left cnt) (hpos : 0 < cnt)
    (hMore : ∀ (x y c : Int) (w' : World), (Lit.int .u32 x).wf = true → (Lit.int .u8 y).wf = true → left (sk x y) = true → w'.ownsMap Trym.prog 58 (plainElem Trym.prog 26) b n D →
      w.grownBy w' (some r) → (Instr.entry (.pointer (some ⟨r, 0, none⟩))).run Trym.prog w' = .ok (.tuple #[.agg #[.int .u32 x, .int .u8 y], .int .u32 c]) w' → wpList Trym.prog ops Q rest (a.put o.dst (.tuple #[.bool true, .agg #[.int .u32 x, .int .u8 y], .int .u32 c])) w') :
    wpList Trym.prog ops Q (o :: rest) a w :=
  wpList_next_ranges w hg it hop 58 law58 (plainElem Trym.prog 26) (fun p : Int × Int => .agg #[.int .u32 p.1, .int .u8 p.2]) (Value.int .u32)
    (fun key kl hkey => by obtain ⟨n, h, rfl, _⟩ := sk_inv hkey; exact ⟨(n, h), rfl⟩) (fun v y hv => by obtain ⟨c, rfl, _⟩ := plainElem_int_inv Trym.underlying26 hv; exact ⟨c, rfl⟩)
    b r n D left cnt hit h (fun h0 => by omega) (fun p c kl y w' cnt' hkey hlk hv hat hrg hlt hgr hsz hen => by
      obtain ⟨x', y', e1, rfl, wx, wy⟩ := sk_inv hkey
      simp at e1
      obtain ⟨e1, e2⟩ := e1
      subst e1 e2
      exact hMore p.1 p.2 c w' wx wy hlk hrg.owns hgr hen)

theorem Kp.cell {w w' : World} {S : Nat → Prop} (h : Kp w w' S) {a : Addr} {v : Value} (hc : w.cell? a = some v) (hS : ¬ S a.block) : w'.cell? a = some v :=
  (World.cell?_of_block (h.block a.block (World.block_lt_of_cell? w a hc) hS)).trans hc
theorem Kp.of_grown {w w' : World} {row : Option Nat} (hg : w.grownBy w' row) : Kp w w' (fun i => row = some i) := (Kp.refl w _).grown hg (fun k hk _ => hk)

/-- 'delete', as an equation. -/
theorem own_drop {w : World} {bl : Nat} {D : DataW Unit} (h : Own w bl D) {n hh : Int} (hn : (Lit.int .u32 n).wf = true) (hw : (Lit.int .u8 hh).wf = true) :
    ∃ w1, (∀ ty, (Builtin.delete_ #[56, 58] ty #[.map (some bl), .agg #[.int .u32 n, .int .u8 hh]]).run Trym.prog w = .ok (.tuple #[]) w1) ∧ Own w1 bl (D.del (sk n hh)) ∧ Kp w w1 (fun i => i = bl) := by
  obtain ⟨w1, hrun, hown1, hturn⟩ := World.ownsMap.drop h law58 Trym.underlying56 (sk_key hn hw) 0
  refine ⟨w1, fun ty => ?_, owns_tight hown1, (Kp.refl w _).grown hturn.grown (fun k hk _ => by cases hk; rfl)⟩
  have : Builtin.delete_ #[56, 58] ty #[.map (some bl), .agg #[.int .u32 n, .int .u8 hh]] = Builtin.delete_ #[56, 58] 0 #[.map (some bl), .agg #[.int .u32 n, .int .u8 hh]] := rfl
  rw [this, hrun]

set_option maxHeartbeats 400000 in
set_option maxRecDepth 100000 in
theorem remember_full (b bl : Nat) (D : DataW Unit) (n h sq : Int) (w : World) (c7 : w.cell? ⟨b, 7, none⟩ = some (.map (some bl))) (hown : Own w bl D)
    (hs : 65536 ≤ Maps.size D) (hs1 : Maps.size D < 4294967296) (hhas : Maps.has D (sk n h) = false) (hb : b < w.heap.size) (hne : b ≠ bl)
    (hn : (Lit.int .u32 n).wf = true) (hh : (Lit.int .u8 h).wf = true) (hq : (Lit.int .u32 sq).wf = true) :
    Calls Trym.prog 29 #[.pointer (some ⟨b, 0, none⟩), .agg #[.int .u32 n, .int .u8 h], .int .u32 sq] w fun e w' => e = .returned (.tuple #[]) ∧
      (∃ x y, (Lit.int .u32 x).wf = true ∧ (Lit.int .u8 y).wf = true ∧ Maps.has D (sk x y) = true ∧ Own w' bl ((D.del (sk x y)).put (sk n h) (.lit (.int .u32 sq)))) ∧ Kp w w' (fun i => i = bl) := by
  have hnil := fun W : World => run_eql_map_nil (P := Trym.prog) W 56 58 26 (some bl) Trym.underlying56
  obtain ⟨c, hlook⟩ : ∃ c, ∀ nq, (Instr.lookup 56 (.map (some bl)) (.agg #[.int .u32 n, .int .u8 h]) true).run Trym.prog ((w.alloc (.cells #[.int .u32 n, .int .u8 h] 58)).drewN nq) = .ok (.tuple #[.int .u32 c, .bool false]) ((w.alloc (.cells #[.int .u32 n, .int .u8 h] 58)).drewN nq) :=
    ⟨numAt D (sk n h), fun nq => by have := own_look (own_drewN (own_alloc hown (.cells #[.int .u32 n, .int .u8 h] 58)) nq) hn hh; rw [hhas] at this; exact this⟩
  have hlen := fun ty => (hown.alloc (.cells #[.int .u32 n, .int .u8 h] 58)).len Trym.underlying56 ty
  have hs' : 65536 ≤ ((Maps.size D : Nat) : Int) := by omega
  have hpos : 0 < Maps.size D := by omega
  generalize ((Maps.size D : Nat) : Int) = sz at hlen hs'
  have hbz := hown.lt
  have hownA := own_alloc hown (.cells #[.int .u32 n, .int .u8 h] 58)
  clear hown hs hhas
  go_enter Trym.func29, Trym.ntmps29
  go_wp2
  go_quiet (fail)
  go_wp2_with (first
    | (at_range; refine wpList_range_own _ rfl _ 56 rfl 58 26 law58 Trym.underlying56 _ bl _ _ rfl (own_drewN hownA _) ?_; intro w0 hrg0 hg0 hs0)
    | go_in)
  go_frame
  rw [show ((w.alloc (.cells #[.int .u32 n, .int .u8 h] 58)).drewN nq).heap.size = w.heap.size + 1 from by simp]
  have kA : Kp w w0 (fun _ => False) := (((Kp.refl w _).alloc _).drewN nq).grown hg0 (fun k hk _ => by cases hk)
  have c70 : w0.cell? ⟨b, 7, none⟩ = some (.map (some bl)) := kA.cell c7 (by simp)
  have cn0 : w0.cell? ⟨w.heap.size, 0, none⟩ = some (.int .u32 n) := hg0.cell (by simp) (by simp)
  have ch0 : w0.cell? ⟨w.heap.size, 1, none⟩ = some (.int .u8 h) := hg0.cell (by simp) (by simp)
  have hz0 : w0.heap.size = w.heap.size + 2 := by simpa using hs0
  have HR : Hid (w0.ranges Trym.prog 58 (plainElem Trym.prog 26) bl (w.heap.size + 1) (Maps.size D) D (Maps.has D) (Maps.size D)) := by unfold Hid; simpa using hrg0
  clear hrg0 hlook hlen hs' hs0 hg0 hownA
  -- what the round and the store behind it do, once the step is known
  have ST : Hid (∀ (x y : Int) (w1 : World), (Lit.int .u32 x).wf = true → (Lit.int .u8 y).wf = true → w1.ownsMap Trym.prog 58 (plainElem Trym.prog 26) bl (Maps.size D) D → w0.grownBy w1 (some (w.heap.size + 1)) →
      b < w1.heap.size ∧ w1.cell? ⟨b, 7, none⟩ = some (.map (some bl)) ∧ ∃ w2 w3, (∀ ty, (Builtin.delete_ #[56, 58] ty #[.map (some bl), .agg #[.int .u32 x, .int .u8 y]]).run Trym.prog (w1.alloc (.cells #[.int .u32 x, .int .u8 y] 58)).drew = .ok (.tuple #[]) w2) ∧
        w2.cell? ⟨b, 7, none⟩ = some (.map (some bl)) ∧ w2.cell? ⟨w.heap.size, 0, none⟩ = some (.int .u32 n) ∧ w2.cell? ⟨w.heap.size, 1, none⟩ = some (.int .u8 h) ∧
        (Instr.mapUpdate 56 (.map (some bl)) (.agg #[.int .u32 n, .int .u8 h]) (.int .u32 sq)).run Trym.prog w2.drew = .ok () w3 ∧ Own w3 bl ((D.del (sk x y)).put (sk n h) (.lit (.int .u32 sq))) ∧ Kp w w3 (fun i => i = bl)) := by
    intro x y w1 wx wy ho hg
    have k1 := Kp.of_grown hg
    have ho1 : Own (w1.alloc (.cells #[.int .u32 x, .int .u8 y] 58)).drew bl D := own_alloc ho _
    obtain ⟨w2, hdel, ho2, k2⟩ := own_drop ho1 wx wy
    have hsz : Maps.size (D.del (sk x y)) < 4294967296 := by
      have := Maps.size_del (k := sk x y) (World.ownsMap.tidy ho law58)
      omega
    obtain ⟨w3, hrun, ho3, k3⟩ := own_store (own_drewN ho2 1) hsz hn hh hq
    have k12 : Kp w0 w2 (fun i => i = bl ∨ i = w.heap.size + 1) := ((((Kp.refl w0 _).next k1 (fun i _ e => Or.inr (by cases e; rfl))).alloc _).drew).next k2 (fun i _ e => Or.inl e)
    refine ⟨by have := hg.size; omega, hg.cell c70 (by simp; omega), w2, w3, hdel, k12.cell c70 (by simp; omega), k12.cell cn0 (by simp; omega), k12.cell ch0 (by simp; omega), hrun, ho3, ?_⟩
    exact ((kA.mono (fun _ _ e => by cases e)).next k12 (fun i hi e => by rcases e with e | e; exact e; omega)).drew.trans k3
  clear kA
  refine wp_loop_rounds 1 ?_
  rw [rounds_succ]
  go_wp2_with (first
    | (at_next; refine wpList_next_sources _ rfl _ rfl bl (w.heap.size + 1) _ D _ _ rfl HR.out hpos ?_; intro x y c1 w1 wx wy hl hown1 hg1 hen; obtain ⟨hb1, c71, w2, w3, hdel, c72, cn2, ch2, hrun, ho3, k3⟩ := ST.out x y w1 wx wy hown1 hg1; have FI : Hid (Maps.has D (sk x y) = true ∧ Own w3 bl ((D.del (sk x y)).put (sk n h) (.lit (.int .u32 sq))) ∧ Kp w w3 (fun i => i = bl)) := ⟨hl, ho3, k3⟩; clear hown1 hg1 ST HR hl ho3 k3)
    | go_in)
  go_region
  go_wp2
  go_region
  go_wp2
  go_end0
  exact ⟨rfl, ⟨x, y, wx, wy, FI.out.1, FI.out.2.1⟩, FI.out.2.2⟩

/-- The value mv is a map of sources that reads as D (nil reads as empty). -/
def Lst (w : World) (mv : Value) (D : DataW Unit) : Prop := (mv = .map none ∧ D = .map []) ∨ ∃ bl, mv = .map (some bl) ∧ Own w bl D
theorem Lst.last {w : World} {mv : Value} {D : DataW Unit} (h : Lst w mv D) : Last w mv (Maps.size D) D := h

/-- (*Counter).remember. -/
theorem remember_any (b : Nat) (r t m u p l e : Int) (mv : Value) (nd hw q : Int) (hc : Bool) (D : DataW Unit) (n h sq : Int) (w : World) (hctr : Ctr w b r t m u p l e mv nd hw q hc) (hl : Lst w mv D) (hs1 : Maps.size D < 4294967296)
    (hn : (Lit.int .u32 n).wf = true) (hh : (Lit.int .u8 h).wf = true) (hq : (Lit.int .u32 sq).wf = true) :
    Calls Trym.prog 29 #[.pointer (some ⟨b, 0, none⟩), .agg #[.int .u32 n, .int .u8 h], .int .u32 sq] w fun er w' => er = .returned (.tuple #[]) ∧
      ∃ bl D', Remembered D n h sq D' ∧ Ctr w' b r t m u p l e (.map (some bl)) nd hw q hc ∧ Own w' bl D' ∧ (mv = .map (some bl) ∨ w.heap.size ≤ bl) ∧ Kp w w' (fun i => i = b ∨ mv = .map (some i)) := by
  rcases hl with ⟨rfl, rfl⟩ | ⟨bl, rfl, ho⟩
  · refine (remember_nil b r t m u p l e nd hw q hc n h sq w hctr hn hh hq).mono ?_
    rintro er w' ⟨rfl, bl, h1, h2, h3, h4⟩
    exact ⟨rfl, bl, _, Or.inl ⟨Or.inl (by decide), rfl⟩, h2, h3, Or.inr h1, h4.mono (fun _ _ e => Or.inl e)⟩
  · have hne := ctr_ne_own hctr ho
    have hb := hctr.lt
    by_cases hs : Maps.size D < 65536
    · refine (remember_room b bl D n h sq w hctr.last ho hs hb hn hh hq).mono ?_
      rintro er w' ⟨rfl, h1, h2⟩
      exact ⟨rfl, bl, _, Or.inl ⟨Or.inl hs, rfl⟩, h2.ctr hctr hne, h1, Or.inl rfl, h2.mono (fun i _ e => Or.inr (by rw [e]))⟩
    · cases hhas : Maps.has D (sk n h)
      · refine (remember_full b bl D n h sq w hctr.last ho (by omega) hs1 hhas hb hne hn hh hq).mono ?_
        rintro er w' ⟨rfl, ⟨x, y, wx, wy, h0, h1⟩, h2⟩
        exact ⟨rfl, bl, _, Or.inr ⟨by omega, hhas, x, y, wx, wy, h0, rfl⟩, h2.ctr hctr hne, h1, Or.inl rfl, h2.mono (fun i _ e => Or.inr (by rw [e]))⟩
      · refine (remember_has b bl D n h sq w hctr.last ho (by omega) hs1 hhas hb hn hh hq).mono ?_
        rintro er w' ⟨rfl, h1, h2⟩
        exact ⟨rfl, bl, _, Or.inl ⟨Or.inr hhas, rfl⟩, h2.ctr hctr hne, h1, Or.inl rfl, h2.mono (fun i _ e => Or.inr (by rw [e]))⟩

end Go.Proofs.Qxb6605559aMods
