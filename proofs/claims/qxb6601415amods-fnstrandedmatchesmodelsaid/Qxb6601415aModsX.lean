import Derived.Test.Qxb6601415aModsW
import Derived.Maps.RangeWalk
import Derived.DeepKeys4
import Derived.WideKeyEntry
import Derived.KernelRfl
namespace Go.Proofs.Qxb6601415aMods
open Go.RowKit Go.Extern.Stop Go.Maps Go.ChangeMaps
set_option linter.unusedVariables false
set_option linter.unusedSimpArgs false
set_option maxRecDepth 20000

theorem laidOut : laidOutB Trym.prog = true := by kernel_rfl
theorem row70 : (70 : TypeId) < Trym.prog.types.size := of_decide_eq_true (by kernel_rfl)
theorem cells70 : Trym.prog.cellsOf 70 = 20 := by kernel_rfl
theorem cells5 : Trym.prog.cellsOf 5 = 1 := by kernel_rfl
theorem wide70 : (match Trym.prog.underlying 70 with | some (.array _ _) | some (.struct _) => true | _ => false) = true := by rw [Trym.underlying70]
theorem klaw70 : WideMaps.KeyLaw Trym.prog 70 := deep_law_laid laidOut (m := 3) (by omega) row70 (by kernel_rfl) wide70
theorem law70 : Keyed Trym.prog 70 := Keyed.of_law klaw70
theorem keyType70 : Trym.prog.keyType 70 = true := by kernel_rfl
theorem typesPos : ∃ m, Trym.prog.types.size = m + 1 := ⟨Trym.prog.types.size - 1, (Nat.succ_pred_eq_of_pos (Nat.lt_of_le_of_lt (Nat.zero_le _) row70)).symm⟩

theorem mapM_some {α β : Type} {f : α → Option β} : ∀ {l : List α}, (∀ a ∈ l, (f a).isSome = true) → (l.mapM f).isSome = true
  | [], _ => rfl
  | a :: r, h => by
    obtain ⟨b, hb⟩ := Option.isSome_iff_exists.1 (h a (by simp))
    obtain ⟨bs, hbs⟩ := Option.isSome_iff_exists.1 (mapM_some (f := f) (l := r) (fun x hx => h x (by simp [hx])))
    rw [List.mapM_cons, hb, hbs]
    rfl

/-- What an id reads as, as a key. -/
noncomputable def kid (x : List UInt8) : Lit := (keyOf Trym.prog 70 (.agg (idc x).toArray)).getD (.bool false)
theorem kid_key {x : List UInt8} (hx : x.length = 20) : keyOf Trym.prog 70 (.agg (idc x).toArray) = some (kid x) := by
  have h : (keyOf Trym.prog 70 (.agg (idc x).toArray)).isSome = true := by
    obtain ⟨m, hm⟩ := typesPos
    unfold keyOf
    simp only [Trym.underlying70]
    rw [if_pos (by simp [keyType70, Value.formed, Trym.underlying70, cells70, idc_length, hx]), hm]
    unfold Program.keyLits
    simp only [Trym.underlying70, Value.cells]
    rw [if_pos (by simp [cells70, idc_length, hx])]
    rw [Option.isSome_map, Option.isSome_map]
    refine mapM_some (fun i hi => ?_)
    have hi' : i < 20 := by simpa using hi
    have hix : i < x.length := by omega
    rw [cells5, Nat.mul_one]
    have hd : ((idc x).drop i).take 1 = [cell (x[i])] := by
      simp only [idc]
      rw [← List.map_drop, List.drop_eq_getElem_cons hix]
      rfl
    have e : (List.drop i (idc x).toArray.toList).take 1 = [cell (x[i])] := by simpa using hd
    rw [e]
    unfold Program.keyLits
    simp only [Trym.underlying5, cell]
    rw [if_pos ⟨trivial, by
      have := (x[i]).toNat_lt
      simp only [Lit.wf, IntKind.min, IntKind.max, Bool.and_eq_true, decide_eq_true_eq]
      have h2 : (Int.ofNat (x[i]).toNat) = ((x[i]).toNat : Int) := rfl
      rw [h2]
      constructor
      · simp [IntKind.signed]
      · simp [IntKind.signed, IntKind.bits]; omega⟩]
    rfl
  obtain ⟨l, hl⟩ := Option.isSome_iff_exists.1 h
  rw [kid, hl]
  rfl
theorem idc_inj {x y : List UInt8} (h : (Value.agg (idc x).toArray) = .agg (idc y).toArray) : x = y := by
  have h1 : idc x = idc y := by simpa using h
  have hc : ∀ a b : UInt8, cell a = cell b → a = b := fun a b h => by
    simp only [cell, Value.int.injEq, true_and] at h
    have : a.toNat = b.toNat := by
      have h2 : ((a.toNat : Nat) : Int) = ((b.toNat : Nat) : Int) := h
      omega
    exact UInt8.toNat_inj.1 this
  exact List.map_inj_right (fun a b h => hc a b h) |>.1 h1
theorem kid_ne {x y : List UInt8} (hx : x.length = 20) (hy : y.length = 20) (h : x ≠ y) : kid x ≠ kid y := fun e =>
  h (idc_inj (law70.inj (kid_key hx) (e ▸ kid_key hy)))

def RV : Value → Option (DataW Value × List MemPlace) := fun v => some (.held v, [])

/-- Block g is a map from ids that holds F; K are its keys. -/
def MapV (w : World) (g : Nat) (F : List UInt8 → Option Value) (K : List (List UInt8)) : Prop :=
  ∃ D : DataW Value, w.ownsMap Trym.prog 70 RV g (Maps.size D) D ∧ Maps.size D = K.length ∧ K.Nodup ∧ (∀ x ∈ K, x.length = 20) ∧
    ∀ x : List UInt8, x.length = 20 → Maps.has D (kid x) = (F x).isSome ∧ (x ∈ K ↔ (F x).isSome = true) ∧ ∀ v, F x = some v → ∀ z, D.atKey (kid x) z = .held v

theorem MapV.lt {w : World} {g : Nat} {F : List UInt8 → Option Value} {K : List (List UInt8)} (h : MapV w g F K) : g < w.heap.size := h.choose_spec.1.lt
theorem MapV.keep {w w' : World} {g : Nat} {F : List UInt8 → Option Value} {K : List (List UInt8)} (h : MapV w g F K) (hb : w'.heap[g]? = w.heap[g]?) : MapV w' g F K := by
  obtain ⟨D, ⟨es, clock, h1, r⟩, r2⟩ := h
  exact ⟨D, ⟨es, clock, hb.trans h1, r⟩, r2⟩
theorem MapV.below {w w' : World} {g B : Nat} {F : List UInt8 → Option Value} {K : List (List UInt8)} (h : MapV w g F K) (hB : Below B w w') (hg : g < B) : MapV w' g F K := h.keep (hB.block g hg)
theorem MapV.new (w : World) : MapV (w.alloc (.map #[] 0)) w.heap.size (fun _ => none) [] :=
  ⟨.map [], World.ownsMap_made w _ _ _, rfl, List.nodup_nil, fun x hx => by simp at hx, fun x _ => ⟨rfl, by simp, fun v hv => by cases hv⟩⟩

theorem tight {w : World} {g n : Nat} {D : DataW Value} (h : w.ownsMap Trym.prog 70 RV g n D) : w.ownsMap Trym.prog 70 RV g (Maps.size D) D := by
  obtain ⟨es, clock, hb, F, hs, rfl⟩ := h
  exact ⟨es, clock, hb, F, by simp [Maps.size, length_sorted], rfl⟩

section
variable {w : World} {g : Nat} {F : List UInt8 → Option Value} {K : List (List UInt8)} {T E : TypeId} {z : Value} {x : List UInt8}

theorem MapV.look_ok (h : MapV w g F K) (ht : Trym.prog.underlying T = some (.map 70 E)) (hz : ∀ w, (zeroValue E).run Trym.prog w = .ok z w) (hx : x.length = 20) :
    (Instr.lookup T (.map (some g)) (.agg (idc x).toArray) true).run Trym.prog w = .ok (.tuple #[(F x).getD z, .bool (F x).isSome]) w := by
  obtain ⟨D, ho, hs, hn, hk, hF⟩ := h
  obtain ⟨v, ps, hrun, hv⟩ := ho.look_ok law70 ht (hz w) (zd := .held z) (zp := []) rfl (kid_key hx)
  obtain ⟨h1, _, h3⟩ := hF x hx
  rw [hrun, h1]
  have hv' : v = (F x).getD z := by
    have e : DataW.held v = D.atKey (kid x) (.held z) := by
      have := hv
      simp only [RV, Option.some.injEq, Prod.mk.injEq] at this
      exact this.1
    cases hq : F x with
    | none =>
      rw [hq] at h1
      rw [atKey_of_not_has h1] at e
      simpa using e
    | some u =>
      rw [h3 u hq] at e
      simpa using e
  rw [hv']
theorem MapV.look (h : MapV w g F K) (ht : Trym.prog.underlying T = some (.map 70 E)) (hz : ∀ w, (zeroValue E).run Trym.prog w = .ok z w) (hx : x.length = 20) :
    (Instr.lookup T (.map (some g)) (.agg (idc x).toArray) false).run Trym.prog w = .ok ((F x).getD z) w := by
  obtain ⟨D, ho, hs, hn, hk, hF⟩ := h
  obtain ⟨v, ps, hrun, hv⟩ := ho.lookup law70 ht (hz w) (zd := .held z) (zp := []) rfl (kid_key hx)
  obtain ⟨h1, _, h3⟩ := hF x hx
  rw [hrun]
  have hv' : v = (F x).getD z := by
    have e : DataW.held v = D.atKey (kid x) (.held z) := by
      have := hv
      simp only [RV, Option.some.injEq, Prod.mk.injEq] at this
      exact this.1
    cases hq : F x with
    | none =>
      rw [hq] at h1
      rw [atKey_of_not_has h1] at e
      simpa using e
    | some u =>
      rw [h3 u hq] at e
      simpa using e
  rw [hv']
theorem MapV.len (h : MapV w g F K) (ht : Trym.prog.underlying T = some (.map 70 E)) (ty : TypeId) : (Builtin.len_ #[T] ty #[.map (some g)]).run Trym.prog w = .ok (.int .i64 (K.length : Int)) w := by
  obtain ⟨D, ho, hs, _⟩ := h
  rw [ho.len ht ty, hs]

def updF (F : List UInt8 → Option Value) (x : List UInt8) (o : Option Value) : List UInt8 → Option Value := fun y => if y = x then o else F y
def addK (K : List (List UInt8)) (x : List UInt8) : List (List UInt8) := if x ∈ K then K else K ++ [x]
def delK (K : List (List UInt8)) (x : List UInt8) : List (List UInt8) := K.filter (· ≠ x)

theorem mapV_put {D : DataW Value} (ho : w.ownsMap Trym.prog 70 RV g (Maps.size D) D) (hs : Maps.size D = K.length) (hn : K.Nodup) (hk : ∀ x ∈ K, x.length = 20)
    (hF : ∀ x : List UInt8, x.length = 20 → Maps.has D (kid x) = (F x).isSome ∧ (x ∈ K ↔ (F x).isSome = true) ∧ ∀ v, F x = some v → ∀ z, D.atKey (kid x) z = .held v)
    (hx : x.length = 20) {v : Value} {w' : World} {n : Nat} (ho' : w'.ownsMap Trym.prog 70 RV g n (D.put (kid x) (.held v))) : MapV w' g (updF F x (some v)) (addK K x) := by
  have hkl := law70.key (kid_key hx)
  have htd := ho.tidy law70
  refine ⟨_, tight ho', ?_, ?_, ?_, ?_⟩
  · rw [size_put htd, hs, (hF x hx).1, addK]
    by_cases h : x ∈ K
    · rw [if_pos h, if_pos ((hF x hx).2.1.1 h)]
    · rw [if_neg h, if_neg (fun h2 => h ((hF x hx).2.1.2 h2))]
      simp
  · unfold addK
    split
    · exact hn
    · rename_i h; exact nodup_snoc hn h
  · unfold addK
    intro y hy
    split at hy
    · exact hk y hy
    · rcases List.mem_append.1 hy with hy | hy
      · exact hk y hy
      · simp at hy; subst hy; exact hx
  · intro y hy
    by_cases e : y = x
    · subst e
      refine ⟨by rw [has_put_same htd.isMap hkl]; simp [updF], ?_, fun u hu z => ?_⟩
      · simp only [updF, if_pos, Option.isSome_some, iff_true]
        unfold addK
        split
        · assumption
        · simp
      · simp only [updF, if_pos, Option.some.injEq] at hu
        subst hu
        exact atKey_put_same htd.isMap hkl _ _
    · have hne := kid_ne hy hx e
      obtain ⟨h1, h2, h3⟩ := hF y hy
      simp only [updF, if_neg e]
      refine ⟨by rw [has_put_other hne]; exact h1, ?_, fun u hu z => by rw [atKey_put_other hne]; exact h3 u hu z⟩
      rw [← h2]
      unfold addK
      split
      · exact Iff.rfl
      · simp [e]

theorem MapV.store (h : MapV w g F K) (ht : Trym.prog.underlying T = some (.map 70 E)) (hK : K.length ≤ 1000000000) (hx : x.length = 20) (v : Value) :
    ∃ w', (Instr.mapUpdate T (.map (some g)) (.agg (idc x).toArray) v).run Trym.prog w = .ok () w' ∧ MapV w' g (updF F x (some v)) (addK K x) ∧ w.mapTurned w' g := by
  obtain ⟨D, ho, hs, hn, hk, hF⟩ := h
  obtain ⟨w', hrun, ho', ht'⟩ := ho.store law70 ht (by rw [hs]; simp only [maxLen]; omega) (kid_key hx) (val := v) (d := .held v) (ps := []) rfl
  exact ⟨w', hrun, mapV_put ho hs hn hk hF hx ho', ht'⟩

theorem MapV.drop (h : MapV w g F K) (ht : Trym.prog.underlying T = some (.map 70 E)) (hx : x.length = 20) (ty : TypeId) :
    ∃ w', (Builtin.delete_ #[T, 70] ty #[.map (some g), .agg (idc x).toArray]).run Trym.prog w = .ok (.tuple #[]) w' ∧ MapV w' g (updF F x none) (delK K x) ∧ w.mapTurned w' g := by
  obtain ⟨D, ho, hs, hn, hk, hF⟩ := h
  obtain ⟨w', hrun, ho', ht'⟩ := ho.drop law70 ht (kid_key hx) ty
  have htd := ho.tidy law70
  refine ⟨w', hrun, ⟨_, tight ho', ?_, hn.filter _, ?_, ?_⟩, ht'⟩
  · have h1 := size_del (k := kid x) htd
    rw [hs, (hF x hx).1] at h1
    have h2 : (K.filter (· ≠ x)).length + (if x ∈ K then 1 else 0) = K.length := by
      clear h1 hs hk hF ho ho' htd hrun ht'
      induction K with
      | nil => simp
      | cons y r ih =>
        obtain ⟨hy, hr⟩ := List.nodup_cons.1 hn
        by_cases e : y = x
        · subst e
          have hf : r.filter (· ≠ y) = r := List.filter_eq_self.2 (fun a ha => by simp; exact fun e => hy (e ▸ ha))
          rw [List.filter_cons_of_neg (by simp), hf]
          simp
        · rw [List.filter_cons_of_pos (by simpa using e)]
          have := ih hr
          simp only [List.length_cons, List.mem_cons, Ne.symm e, false_or]
          omega
    unfold delK
    by_cases h3 : x ∈ K
    · rw [if_pos ((hF x hx).2.1.1 h3)] at h1
      rw [if_pos h3] at h2
      omega
    · rw [if_neg (fun h4 => h3 ((hF x hx).2.1.2 h4))] at h1
      rw [if_neg h3] at h2
      omega
  · intro y hy
    exact hk y (List.mem_filter.1 hy).1
  · intro y hy
    by_cases e : y = x
    · subst e
      simp only [updF, if_pos]
      exact ⟨by rw [has_del_same]; rfl, by simp [delK], fun u hu => by cases hu⟩
    · have hne := kid_ne hy hx e
      obtain ⟨h1, h2, h3⟩ := hF y hy
      simp only [updF, if_neg e]
      exact ⟨by rw [has_del_other hne]; exact h1, by rw [← h2]; simp [delK, e], fun u hu z => by rw [atKey_del_other hne]; exact h3 u hu z⟩

/-- The entry made ready is the store of what the map gives already. -/
theorem entry_look {es : Array MapEntry} {clock : Nat} (ht : Trym.prog.underlying T = some (.map 70 E)) (hz : ∀ w, (zeroValue E).run Trym.prog w = .ok z w) (hb : w.heap[g]? = some (.map es clock)) (Ft : WideElems.Fit Trym.prog 70 RV es clock) {key : Value} {kl : Lit} (hkey : keyOf Trym.prog 70 key = some kl) :
    ∃ (v0 : Value) (st : Nat) (w1 : World), (Instr.mapEntry T (.map (some g)) key).run Trym.prog w = .ok (.tuple #[v0, goInt st]) w1 ∧ (Instr.lookup T (.map (some g)) key false).run Trym.prog w = .ok v0 w ∧ (Instr.mapUpdate T (.map (some g)) key v0).run Trym.prog w = .ok () w1 := by
  rcases law70.find w hkey es.toList Ft.keys with ⟨h1, h2⟩ | ⟨j, e0, h1, h2, h3⟩
  · refine ⟨z, clock, setBlock w g (.map (es.push ⟨key, z, clock⟩) (clock + 1)), ?_, ?_, ?_⟩
    · simp [Instr.mapEntry, run_underlying ht, MapKept.run_getObj_map hb, law70.check w false hkey, h1, hz, MapKept.run_setObj_map _ hb, Result.andThen, setBlock]
    · simp [Instr.lookup, run_underlying ht, MapKept.run_getObj_map hb, law70.check w _ hkey, h1, hz, Result.andThen]
    · simp [Instr.mapUpdate, run_underlying ht, MapKept.run_getObj_map hb, law70.check w false hkey, h1, MapKept.run_setObj_map _ hb, Result.andThen, setBlock]
  · have hj : es[j]? = some e0 := by simpa using h2
    have hk0 : ({ e0 with key := key } : MapEntry) = e0 := by rw [← h3]
    have hsame : es.modify j (fun e => { e with key := key }) = es := by
      apply Array.ext'
      rw [Array.toList_modify, modify_eq_set _ _ _ _ h2, hk0]
      exact WideElems.set_self _ _ _ h2
    have hsame2 : es.modify j (fun e => { e with key := key, val := e0.val }) = es := by
      apply Array.ext'
      rw [Array.toList_modify, modify_eq_set _ _ _ _ h2]
      have : ({ e0 with key := key, val := e0.val } : MapEntry) = e0 := by rw [← h3]
      rw [this]
      exact WideElems.set_self _ _ _ h2
    refine ⟨e0.val, e0.born, setBlock w g (.map es clock), ?_, ?_, ?_⟩
    · simp [Instr.mapEntry, run_underlying ht, MapKept.run_getObj_map hb, law70.check w false hkey, h1, hj, h3, law70.stays w hkey, hsame, MapKept.run_setObj_map _ hb, Result.andThen, setBlock]
    · simp [Instr.lookup, run_underlying ht, MapKept.run_getObj_map hb, law70.check w _ hkey, h1, Result.andThen]
    · simp [Instr.mapUpdate, run_underlying ht, MapKept.run_getObj_map hb, law70.check w false hkey, h1, hj, h3, law70.stays w hkey, hsame2, MapKept.run_setObj_map _ hb, Result.andThen, setBlock]

/-- 'm[x] op= ..': the entry, then the store into it. -/
theorem MapV.entry (h : MapV w g F K) (ht : Trym.prog.underlying T = some (.map 70 E)) (hz : ∀ w, (zeroValue E).run Trym.prog w = .ok z w) (hK : K.length ≤ 1000000000) (hx : x.length = 20) :
    ∃ (v0 : Value) (st : Nat) (w1 : World), (Instr.mapEntry T (.map (some g)) (.agg (idc x).toArray)).run Trym.prog w = .ok (.tuple #[v0, goInt st]) w1 ∧ w.mapTurned w1 g ∧ MapV w1 g (updF F x (some ((F x).getD z))) (addK K x) ∧
      ∀ val : Value, ∃ w2, (Instr.entryStore T (.map (some g)) (goInt st) val).run Trym.prog w1 = .ok () w2 ∧ MapV w2 g (updF F x (some val)) (addK K x) ∧ w.mapTurned w2 g := by
  have h0 := h
  obtain ⟨D, ⟨es, clock, hb, Ft, hs', hD⟩, _⟩ := h
  obtain ⟨v0, st, es1, clock1, hrun, _, hst⟩ := WideElems.entry_then_store klaw70 ht hz hb Ft (kid_key hx)
  obtain ⟨v1, st1, w1, a1, a2, a3⟩ := entry_look ht hz hb Ft (kid_key hx)
  rw [a1] at hrun
  have ew : w1 = setBlock w g (.map es1 clock1) := by simpa using (Result.ok.inj hrun).2
  rw [h0.look ht hz hx] at a2
  have ev : (F x).getD z = v1 := (Result.ok.inj a2).1
  obtain ⟨w5, b1, b2, b3⟩ := h0.store ht hK hx v1
  rw [a3] at b1
  have ew5 : w1 = w5 := (Result.ok.inj b1).2
  refine ⟨v0, st, setBlock w g (.map es1 clock1), a1.trans hrun, ⟨es, clock, es1, clock1, hb, rfl⟩, by rw [← ew, ew5, ev]; exact b2, fun val => ?_⟩
  obtain ⟨es', clock', r1, r2⟩ := hst (setBlock w g (.map es1 clock1)) val (heap_setBlock_same hb _)
  obtain ⟨w', s1, s2, s3⟩ := h0.store ht hK hx val
  have e : setBlock (setBlock w g (.map es1 clock1)) g (.map es' clock') = setBlock w g (.map es' clock') := by simp [setBlock]
  rw [r2] at s1
  have e2 : setBlock w g (.map es' clock') = w' := by simpa using s1
  exact ⟨_, r1, by rw [e, e2]; exact s2, by rw [e, e2]; exact s3⟩
end

end Go.Proofs.Qxb6601415aMods
