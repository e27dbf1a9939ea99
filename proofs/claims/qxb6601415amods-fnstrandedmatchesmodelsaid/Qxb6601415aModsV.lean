import Derived.Test.Qxb6601415aModsU
namespace Go.Proofs.Qxb6601415aMods
open Go.RowKit Go.Extern.Stop
set_option linter.unusedVariables false
set_option linter.unusedSimpArgs false
set_option maxRecDepth 20000

theorem SlV.open {w : World} {v : Value} {n sz : Nat} {f : Nat → List Value} (h : SlV w v n sz f) : ∃ a c, v = .slice a n c ∧ ∀ k, k < n → ∃ b off, a = some ⟨b, off, none⟩ ∧ WRow w b off n sz f := by
  rcases h with ⟨rfl, rfl⟩ | ⟨b, off, cap, rfl, hr⟩
  · exact ⟨_, _, rfl, fun k hk => absurd hk (by omega)⟩
  · exact ⟨_, _, rfl, fun k hk => ⟨b, off, rfl, hr⟩⟩

def lid (L : List (List UInt8)) (i : Nat) : List UInt8 := L.getD i []
theorem lid_mem {L : List (List UInt8)} {i : Nat} (h : i < L.length) : lid L i ∈ L := by
  unfold lid
  rw [List.getD_eq_getElem?_getD, List.getElem?_eq_getElem h]
  exact List.getElem_mem h
theorem mem_lid {L : List (List UInt8)} {x : List UInt8} (h : x ∈ L) : ∃ i, i < L.length ∧ lid L i = x := by
  obtain ⟨i, hi, rfl⟩ := List.getElem_of_mem h
  exact ⟨i, hi, by unfold lid; rw [List.getD_eq_getElem?_getD, List.getElem?_eq_getElem hi]; rfl⟩
theorem hasId_mem (L : List (List UInt8)) (x : List UInt8) : hasId (lid L) x L.length = true ↔ x ∈ L := by
  simp only [hasId, List.any_eq_true, List.mem_range, beq_iff_eq]
  exact ⟨fun ⟨i, hi, e⟩ => e ▸ lid_mem hi, fun h => mem_lid h⟩
theorem idc_lid (L : List (List UInt8)) (i : Nat) : (L.map idc).getD i [] = idc (lid L i) := by
  unfold lid
  rw [List.getD_eq_getElem?_getD, List.getD_eq_getElem?_getD, List.getElem?_map]
  cases L[i]? <;> rfl

/-- A slice of ids that the call owns. -/
def OwnIds (w : World) (B : Nat) (e : TypeId) (v : Value) (L : List (List UInt8)) : Prop := OwnW w B e 20 v (L.map idc) ∧ ∀ x ∈ L, x.length = 20
theorem OwnIds.view {w : World} {B : Nat} {e : TypeId} {v : Value} {L : List (List UInt8)} (h : OwnIds w B e v L) : IdsV w v L.length (lid L) := by
  refine ⟨?_, fun i hi => h.2 _ (lid_mem hi)⟩
  have := h.1.sl
  simp only [List.length_map, idc_lid] at this
  exact this
theorem OwnIds.below {w w' : World} {B D : Nat} {e : TypeId} {v : Value} {L : List (List UInt8)} (h : OwnIds w B e v L) (hB : Below D w w') (hD : w.heap.size ≤ D) : OwnIds w' B e v L := ⟨h.1.below hB hD, h.2⟩
theorem OwnIds.alloc {w : World} {B : Nat} {e : TypeId} {v : Value} {L : List (List UInt8)} (h : OwnIds w B e v L) (o : Obj) : OwnIds (w.alloc o) B e v L := ⟨h.1.alloc o, h.2⟩

/-- append(v, x) of one id, laid into a new block first. -/
theorem append_id {T E : TypeId} (ht : Trym.prog.underlying T = some (.slice E)) (hi : (Trym.prog.info? E).map (fun i => (i.zero.map (·.cells.size), i.size, i.bytes)) = some (some 20, 20, 20)) (ty : TypeId)
    {w : World} {B : Nat} {v : Value} {L : List (List UInt8)} {x : List UInt8} (hown : OwnIds w B E v L) (hx : x.length = 20) (hm : L.length ≤ 50000) (hB : B ≤ w.heap.size) :
    ∃ v' w', (Builtin.append_ #[T, T] ty #[v, .slice (some ⟨w.heap.size, 0, none⟩) 1 1]).run Trym.prog (w.alloc (.cells (idc x).toArray E)) = .ok v' w' ∧ OwnIds w' B E v' (L ++ [x]) ∧ v' ≠ .slice none 0 0 ∧ (v'.ownBlock = v.ownBlock ∨ v'.ownBlock = some (w.heap.size + 1)) ∧ (w.alloc (.cells (idc x).toArray E)).grownBy w' v.ownBlock ∧ Below B w w' := by
  have hsl : SlV (w.alloc (.cells (idc x).toArray E)) (.slice (some ⟨w.heap.size, 0, none⟩) 1 1) 1 20 (fun _ => idc x) := .inr ⟨_, 0, 1, rfl, fun i hi => by
    have : i = 0 := by omega
    subst this
    exact rangeAt_new w (idc x) E⟩
  obtain ⟨v', w', r1, r2, r3, r4, r5⟩ := append_any ht hi (by omega) (by omega) ty (hown.1.alloc (.cells (idc x).toArray E)) hsl (fun _ _ => by rw [idc_length, hx]) (fun _ _ => idc_one x) (by simp; omega) (by simp; omega)
  refine ⟨v', w', r1, ⟨by simpa using r2, ?_⟩, by rw [Ne, r4]; simp, by simpa using r5, r3, ?_⟩
  · intro y hy
    rcases List.mem_append.1 hy with hy | hy
    · exact hown.2 y hy
    · simp at hy; subst hy; exact hx
  · exact ((Below.refl B w).alloc hB _).grown r3 (by simp; omega) (fun k hk => (hown.1.block k hk).1)

end Go.Proofs.Qxb6601415aMods
