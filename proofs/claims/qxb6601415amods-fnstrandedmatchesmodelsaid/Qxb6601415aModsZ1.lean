import Derived.Test.Qxb6601415aModsZ
namespace Go.Proofs.Qxb6601415aMods
open Go.RowKit Go.Extern.Stop Go.Maps Go.ChangeMaps
set_option linter.unusedVariables false
set_option linter.unusedSimpArgs false
set_option maxRecDepth 20000

def trl (l : List Tr) (i : Nat) : Tr := l.getD i ⟨[], [], 0, 0, false⟩
theorem trl_get {l : List Tr} {i : Nat} (h : i < l.length) : trl l i = l[i] := by simp [trl, h]
def decL (G : List UInt8 → Option Int) (l : List Tr) : List UInt8 → Option Int := l.foldl (fun G t => decG G t.id) G
theorem decL_append (G : List UInt8 → Option Int) (l r : List Tr) : decL G (l ++ r) = decL (decL G l) r := by simp [decL, List.foldl_append]
theorem decAll_take (G : List UInt8 → Option Int) (l : List Tr) : ∀ k, k ≤ l.length → decAll G (trl l) k = decL G (l.take k)
  | 0, _ => by simp [decAll, decL]
  | k + 1, h => by
    have hk : k < l.length := by omega
    rw [decAll, decAll_take G l k (by omega), trl_get hk, List.take_succ_eq_append_getElem hk, decL_append]
    rfl
theorem decAll_eq (G : List UInt8 → Option Int) (l : List Tr) : decAll G (trl l) l.length = decL G l := by
  rw [decAll_take G l l.length (Nat.le_refl _), List.take_length]

/-- What is gathered along a list of bases: the bases, each once, and their trees. -/
def gstep (T : List UInt8 → List Tr) (acc : List (List UInt8) × List Tr) (x : List UInt8) : List (List UInt8) × List Tr := if x ∈ acc.1 then acc else (acc.1 ++ [x], acc.2 ++ T x)
def gath (T : List UInt8 → List Tr) (l : List (List UInt8)) : List (List UInt8) × List Tr := l.foldl (gstep T) ([], [])
theorem gath_snoc (T : List UInt8 → List Tr) (l : List (List UInt8)) (x : List UInt8) : gath T (l ++ [x]) = gstep T (gath T l) x := by simp [gath, List.foldl_append]
theorem gath_mem_from (T : List UInt8 → List Tr) (y : List UInt8) : ∀ (l : List (List UInt8)) (acc : List (List UInt8) × List Tr), y ∈ (l.foldl (gstep T) acc).1 ↔ y ∈ acc.1 ∨ y ∈ l
  | [], acc => by simp
  | x :: r, acc => by
    rw [List.foldl_cons, gath_mem_from T y r]
    have h1 : y ∈ (gstep T acc x).1 ↔ y ∈ acc.1 ∨ y = x := by
      unfold gstep
      split
      · rename_i h
        exact ⟨.inl, fun h' => h'.elim id (fun e => e ▸ h)⟩
      · simp
    rw [h1, List.mem_cons, or_assoc]
theorem gath_mem (T : List UInt8 → List Tr) (l : List (List UInt8)) (y : List UInt8) : y ∈ (gath T l).1 ↔ y ∈ l := by
  unfold gath
  rw [gath_mem_from]
  simp

/-- The map without the keys in D. -/
def without (F : List UInt8 → Option Value) (D : List (List UInt8)) : List UInt8 → Option Value := fun y => if y ∈ D then none else F y
theorem without_nil (F : List UInt8 → Option Value) : without F [] = F := by funext y; simp [without]
theorem without_old {F : List UInt8 → Option Value} {D : List (List UInt8)} {x : List UInt8} (h : x ∈ D) : updF (without F D) x none = without F D := by
  funext y
  unfold updF without
  by_cases e : y = x
  · rw [if_pos e, e, if_pos h]
  · rw [if_neg e]
theorem without_new (F : List UInt8 → Option Value) (D : List (List UInt8)) (x : List UInt8) : updF (without F D) x none = without F (D ++ [x]) := by
  funext y
  unfold updF without
  by_cases e : y = x
  · rw [if_pos e, if_pos (by simp [e])]
  · rw [if_neg e]
    by_cases h : y ∈ D
    · rw [if_pos h, if_pos (by simp [h])]
    · rw [if_neg h, if_neg (by simp [h, e])]

def MapE (w : World) (g : Nat) (F : List UInt8 → Option Value) : Prop := ∃ K, MapV w g F K

def idl (ids : Nat → List UInt8) (n : Nat) : List (List UInt8) := (List.range n).map ids
theorem idl_succ (ids : Nat → List UInt8) (n : Nat) : idl ids (n + 1) = idl ids n ++ [ids n] := by simp [idl, List.range_succ]
def sel (F : List UInt8 → Option Value) (G : List UInt8 → Option Int) (x : List UInt8) : Bool := (F x).isSome && ((G x).getD 0 == 0)

/-- The value v (a slice) lies in none of the blocks S. -/
def NotIn (v : Value) (S : List Nat) : Prop := ∀ b off n cap, v = .slice (some ⟨b, off, none⟩) n cap → b ∉ S
theorem SlV.kp {w w' : World} {S : List Nat} {v : Value} {n sz : Nat} {f : Nat → List Value} (h : SlV w v n sz f) (hk : KpB w w' S) (hn : NotIn v S) : SlV w' v n sz f := by
  rcases h with h | ⟨b, off, cap, rfl, hr⟩
  · exact .inl h
  · exact .inr ⟨b, off, cap, rfl, fun i hi => hk.range (hr i hi) (hn b off n cap rfl)⟩
theorem TreesV.kp {w w' : World} {S : List Nat} {v : Value} {n : Nat} {ts : Nat → Tr} (h : TreesV w v n ts) (hk : KpB w w' S) (hn : NotIn v S) : TreesV w' v n ts := ⟨h.1.kp hk hn, h.2⟩
theorem IdsV.kp {w w' : World} {S : List Nat} {v : Value} {n : Nat} {ids : Nat → List UInt8} (h : IdsV w v n ids) (hk : KpB w w' S) (hn : NotIn v S) : IdsV w' v n ids := ⟨h.1.kp hk hn, h.2⟩
theorem NotIn.nil (S : List Nat) : NotIn (.slice none 0 0) S := fun b off n cap e => by simp at e
theorem NotIn.of_fresh {v : Value} {B : Nat} {S : List Nat} (h : Fresh v B) (hS : ∀ x ∈ S, x < B) : NotIn v S := fun b off n cap e hb => by
  have h1 := h b off n cap e
  have h2 := hS b hb
  omega

theorem OwnW.kp {w w' : World} {S : List Nat} {B : Nat} {e : TypeId} {sz : Nat} {v : Value} {L : List (List Value)} (h : OwnW w B e sz v L) (hk : KpB w w' S) (hS : ∀ x ∈ S, x < B) : OwnW w' B e sz v L :=
  h.keep fun g hg => hk.block g (h.block g hg).2 (fun hm => by have h1 := hS g hm; have h2 := (h.block g hg).1; omega)

/-- append of one element where there is room: it is laid behind the others. -/
theorem append_room {P : Program} {T E : TypeId} {sz : Nat} (ht : P.underlying T = some (.slice E)) (hi : (P.info? E).map (·.size) = some sz) (ty : TypeId) {w : World} {g n cap b off c : Nat} {cs : List Value} (hn : n + 1 ≤ cap)
    (hcs : w.rangeAt b off cs) (hl : cs.length = sz) (h1 : ∀ u ∈ cs, u.oneCell' = true) (hth : w.there g (n * sz) sz) :
    (Builtin.append_ #[T, T] ty #[.slice (some ⟨g, 0, none⟩) n cap, .slice (some ⟨b, off, none⟩) 1 c]).run P w = .ok (.slice (some ⟨g, 0, none⟩) (n + 1) cap) (w.setCells g (n * sz) cs) := by
  have hsz := run_sizeOf (P := P) hi
  have hld : (loadCells ⟨b, off, none⟩ (1 * sz)).run P w = .ok cs.toArray w := by
    rw [Nat.one_mul, ← hl]
    exact run_loadCells_list (P := P) w ⟨b, off, none⟩ cs (fun j v hv => by rw [Addr.add_mid]; exact hcs j v hv)
  have hst : (storeCells ⟨g, n * sz, none⟩ cs).run P w = .ok () (w.setCells g (n * sz) cs) := by
    have := run_storeCells_cells (P := P) g (n * sz) cs 0 w (fun j hj => by simpa using (hth j (by omega)).1) (fun j hj => by simpa using (hth j (by omega)).2) h1
    simpa [storeCells] using this
  simp [Builtin.append_, run_underlying ht, hsz, Builtin.lenOf, Builtin.firstCells, hn, Addr.add_mid]
  simp [Nat.one_mul] at hld
  simp [hld, hst]

end Go.Proofs.Qxb6601415aMods
