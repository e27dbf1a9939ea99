import Derived.Test.Qxb6601415aModsC
namespace Go.Proofs.Qxb6601415aMods
open Go.RowKit
set_option linter.unusedVariables false

instance (dz : Nat → Int) (n p : Nat) : Decidable (isCR dz n p) := by unfold isCR; infer_instance

/-- The bytes that are kept of the first k. -/
def keep (dz : Nat → Int) (n : Nat) : Nat → List Int
  | 0 => []
  | k + 1 => keep dz n k ++ (if isCR dz n k then [] else [dz k])
/-- The line that byte k lies on. -/
def lns (dz : Nat → Int) : Nat → Nat
  | 0 => 1
  | k + 1 => lns dz k + (if dz k = 10 then 1 else 0)

theorem lns_le (dz : Nat → Int) (k : Nat) : lns dz k ≤ k + 1 := by
  induction k with
  | zero => exact Nat.le_refl _
  | succ k ih => simp only [lns]; split <;> omega
theorem keep_len (dz : Nat → Int) (n k : Nat) : (keep dz n k).length ≤ k := by
  induction k with
  | zero => exact Nat.le_refl _
  | succ k ih => simp only [keep, List.length_append]; split <;> simp <;> omega

theorem nx_step {dz : Nat → Int} {n pos line : Nat} {x : Int} {ok : Bool} {p l : Nat} (N : Nx dz n pos line x ok p l) (hp : pos < n) (hl : line = lns dz pos) :
    ok = true ∧ pos < p ∧ p ≤ n ∧ keep dz n p = keep dz n pos ++ [x] ∧ l = lns dz p := by
  by_cases hc : isCR dz n pos
  · obtain ⟨rfl, rfl, rfl, rfl⟩ := N.cr hp hc
    obtain ⟨c1, c2, c3⟩ := hc
    have hne : ¬ isCR dz n (pos + 1) := by rintro ⟨d1, _⟩; rw [c3] at d1; cases d1
    refine ⟨rfl, by omega, by omega, ?_, ?_⟩
    · rw [keep, if_neg hne, keep, if_pos ⟨c1, c2, c3⟩, c3, List.append_nil]
    · rw [lns, if_pos c3, lns, if_neg (by rw [c1]; decide), hl]
  · by_cases h10 : dz pos = 10
    · obtain ⟨rfl, rfl, rfl, rfl⟩ := N.lf hp h10
      refine ⟨rfl, by omega, by omega, ?_, ?_⟩
      · rw [keep, if_neg hc, h10]
      · rw [lns, if_pos h10, hl]
    · obtain ⟨rfl, rfl, rfl, rfl⟩ := N.one hp hc h10
      refine ⟨rfl, by omega, by omega, ?_, ?_⟩
      · rw [keep, if_neg hc]
      · rw [lns, if_neg h10, hl]
        omega

/-- Block g is a buffer of the call's own: k bytes of cap. -/
def Buf (w : World) (g k cap : Nat) (xs : List Int) : Prop := w.ownsRow 0 5 1 (.slice (some ⟨g, 0, none⟩) k cap) k (xs.map (Value.int .u8))
theorem Buf.same {w w' : World} {g k cap : Nat} {xs : List Int} (h : Buf w g k cap xs) (hb : w'.heap[g]? = w.heap[g]?) : Buf w' g k cap xs := by
  obtain ⟨h1, h2⟩ := h
  refine ⟨h1, ?_⟩
  rcases h2 with h2 | ⟨g', c', cur, e1, e2, e3, e4⟩
  · exact Or.inl h2
  · cases e1
    exact Or.inr ⟨_, _, cur, rfl, e2, hb.trans e3, e4⟩
theorem Buf.lt {w : World} {g k cap : Nat} {xs : List Int} (h : Buf w g k cap xs) : g < w.heap.size := by
  obtain ⟨h1, h2⟩ := h
  rcases h2 with ⟨h2, _⟩ | ⟨g', c', cur, e1, e2, e3, e4⟩
  · cases h2
  · cases e1
    exact (Array.getElem?_eq_some_iff.1 e3).1
theorem Buf.below {w w' : World} {g k cap B : Nat} {xs : List Int} (h : Buf w g k cap xs) (hb : Below B w w') (hB : g < B) : Buf w' g k cap xs := h.same (hb.block g hB)
theorem Buf.cell {w : World} {g k cap : Nat} {xs : List Int} (h : Buf w g k cap xs) {i : Nat} (hi : i < k) : w.cell? ⟨g, i, none⟩ = some (.int .u8 (xs.getD i 0)) := by
  obtain ⟨h1, h2⟩ := h
  rcases h2 with ⟨h2, _⟩ | ⟨g', c', cur, e1, e2, e3, e4, e5, e6, e7⟩
  · cases h2
  · cases e1
    have hx : i < xs.length := by simp at h1; omega
    have : cur[i]? = some (.int .u8 (xs.getD i 0)) := by
      have e8 := congrArg (fun l => l[i]?) e7
      simp only [List.getElem?_take, Nat.mul_one, hi, if_true, List.getElem?_map, Array.getElem?_toList] at e8
      rw [e8, List.getElem?_eq_getElem hx]
      simp [List.getD, hx]
    simp [World.cell?, e3, this]

theorem row_below {w w' : World} {B n K : Nat} {dz : Nat → Int} (h : Row w B n dz) (hb : Below K w w') (hB : B < K) : Row w' B n dz := h.of_block (hb.block B hB)

end Go.Proofs.Qxb6601415aMods
