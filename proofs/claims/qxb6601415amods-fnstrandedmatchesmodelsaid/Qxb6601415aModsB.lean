import Derived.Test.Qxb6601415aModsA
namespace Go.Proofs.Qxb6601415aMods
open Go.RowKit
set_option linter.unusedVariables false

section
variable {w : World} {bs B n c pos line : Nat}
theorem Scn.drewN (h : Scn w bs B n c pos line) (k : Nat) : Scn (w.drewN k) bs B n c pos line := h
theorem Scn.setPos (h : Scn w bs B n c pos line) (x : Nat) : Scn (w.setCell ⟨bs, 1, none⟩ (.int .i64 x)) bs B n c x line := by
  unfold Scn at h ⊢; simp [World.setCell, Array.getElem?_modify, h]
theorem Scn.setLine (h : Scn w bs B n c pos line) (x : Nat) : Scn (w.setCell ⟨bs, 2, none⟩ (.int .i64 x)) bs B n c pos x := by
  unfold Scn at h ⊢; simp [World.setCell, Array.getElem?_modify, h]
end

/-- The byte string x lies in row B: n bytes. -/
def Row (w : World) (B n : Nat) (dz : Nat → Int) : Prop := w.rowIs B 5 n (fun j => .int .u8 (dz j))

theorem next_end (bs B n c line : Nat) (w : World) (h : Scn w bs B n c n line) :
    Calls Trym.prog 30 #[.pointer (some ⟨bs, 0, none⟩)] w fun e w' => e = .returned (.tuple #[.int .u8 0, .bool false]) ∧ Scn w' bs B n c n line ∧ Below bs w w' := by
  have H := hide h
  clear h
  go_enter Trym.func30, Trym.ntmps30
  go_wp2_with fail
  refine (peek_end bs B n c line _ H.out).mono ?_
  rintro e w' ⟨rfl, k, rfl⟩
  go_wp2
  go_ret2
  exact ⟨rfl, H.out.drewN _, below_drewN (Below.refl _ _) _⟩

set_option maxHeartbeats 1000000 in
theorem next_crlf (bs B n c pos line : Nat) (dz : Nat → Int) (w : World) (h : Scn w bs B n c pos line) (hr : Row w B n dz) (hB : B ≠ bs) (hn : n ≤ 1048576) (hl : line ≤ 1048577) (hp : pos + 1 < n) (x0 : dz pos = 13) (x1 : dz (pos + 1) = 10) :
    Calls Trym.prog 30 #[.pointer (some ⟨bs, 0, none⟩)] w fun e w' => e = .returned (.tuple #[.int .u8 10, .bool true]) ∧ Scn w' bs B n c (pos + 2) (line + 1) ∧ Below bs w w' := by
  have d0 : w.cell? ⟨B, pos, none⟩ = some (.int .u8 13) := by rw [hr.cell (by omega), x0]
  have d1 : w.cell? ⟨B, pos + 1, none⟩ = some (.int .u8 10) := by rw [hr.cell (by omega), x1]
  obtain ⟨s0, s1, s2⟩ := h.cells
  have fz := h.frozen
  have hb := h.lt
  have e1 : (pos : Int) < n := by omega
  have H := hide h
  clear h hr x0 x1
  go_enter Trym.func30, Trym.ntmps30
  go_wp2_with fail
  refine (peek_crlf bs B n c pos line _ H.out hn hp d0 d1).mono ?_
  rintro e w' ⟨rfl, k, rfl⟩
  go_wp2
  go_quiet (fail)
  go_wp2
  go_ret2
  refine ⟨rfl, ?_, ?_⟩
  · rw [show (line : Int) + 1 = ((line + 1 : Nat) : Int) from by omega, show (pos : Int) + 1 + 1 = ((pos + 2 : Nat) : Int) from by omega, show (pos : Int) + 1 = ((pos + 1 : Nat) : Int) from by omega]
    exact ((((H.out.drewN _).setLine _).drewN _).setPos _).setPos _
  · exact ((below_drewN ((below_drewN (Below.refl bs w) _).setCell (p := ⟨bs, 2, none⟩) (Nat.le_refl _) _) _).setCell (p := ⟨bs, 1, none⟩) (Nat.le_refl _) _).setCell (p := ⟨bs, 1, none⟩) (Nat.le_refl _) _

set_option maxHeartbeats 1000000 in
theorem next_lf (bs B n c pos line : Nat) (dz : Nat → Int) (w : World) (h : Scn w bs B n c pos line) (hr : Row w B n dz) (hB : B ≠ bs) (hn : n ≤ 1048576) (hl : line ≤ 1048577) (hp : pos < n) (x0 : dz pos = 10) :
    Calls Trym.prog 30 #[.pointer (some ⟨bs, 0, none⟩)] w fun e w' => e = .returned (.tuple #[.int .u8 10, .bool true]) ∧ Scn w' bs B n c (pos + 1) (line + 1) ∧ Below bs w w' := by
  have d0 : w.cell? ⟨B, pos, none⟩ = some (.int .u8 10) := by rw [hr.cell (by omega), x0]
  obtain ⟨s0, s1, s2⟩ := h.cells
  have fz := h.frozen
  have hb := h.lt
  have e1 : (pos : Int) < n := by omega
  have H := hide h
  clear h hr x0
  go_enter Trym.func30, Trym.ntmps30
  go_wp2_with fail
  refine (peek_one bs B n c pos line 10 _ H.out hn hp d0 (by decide)).mono ?_
  rintro e w' ⟨rfl, k, rfl⟩
  go_wp2
  go_quiet (fail)
  go_wp2
  go_ret2
  refine ⟨rfl, ?_, ?_⟩
  · rw [show (line : Int) + 1 = ((line + 1 : Nat) : Int) from by omega, show (pos : Int) + 1 = ((pos + 1 : Nat) : Int) from by omega]
    exact (((H.out.drewN _).setLine _).drewN _).setPos _
  · exact (below_drewN ((below_drewN (Below.refl bs w) _).setCell (p := ⟨bs, 2, none⟩) (Nat.le_refl _) _) _).setCell (p := ⟨bs, 1, none⟩) (Nat.le_refl _) _

/-- A carriage return that ends a line. -/
def isCR (dz : Nat → Int) (n p : Nat) : Prop := dz p = 13 ∧ p + 1 < n ∧ dz (p + 1) = 10

theorem peek_other (bs B n c pos line : Nat) (dz : Nat → Int) (w : World) (h : Scn w bs B n c pos line) (hr : Row w B n dz) (hn : n ≤ 1048576) (hp : pos < n) (hc : ¬ isCR dz n pos) :
    Calls Trym.prog 39 #[.pointer (some ⟨bs, 0, none⟩)] w fun e w' => e = .returned (.tuple #[.int .u8 (dz pos), .bool true]) ∧ ∃ k, w' = w.drewN k := by
  have d0 : w.cell? ⟨B, pos, none⟩ = some (.int .u8 (dz pos)) := by rw [hr.cell (by omega)]
  by_cases h13 : dz pos = 13
  · by_cases hl : pos + 1 < n
    · have hy : dz (pos + 1) ≠ 10 := fun x => hc ⟨h13, hl, x⟩
      exact peek_cr bs B n c pos line (dz pos) w h hn hp d0 h13 hl (dz (pos + 1)) (by rw [hr.cell (by omega)]) (by simpa using hy)
    · exact peek_last bs B n c pos line (dz pos) w h hn hp d0 h13 (by omega)
  · exact peek_one bs B n c pos line (dz pos) w h hn hp d0 (by simpa using h13)

set_option maxHeartbeats 1000000 in
theorem next_other (bs B n c pos line : Nat) (dz : Nat → Int) (w : World) (h : Scn w bs B n c pos line) (hr : Row w B n dz) (hB : B ≠ bs) (hn : n ≤ 1048576) (hp : pos < n) (hc : ¬ isCR dz n pos) (x0 : dz pos ≠ 10) :
    Calls Trym.prog 30 #[.pointer (some ⟨bs, 0, none⟩)] w fun e w' => e = .returned (.tuple #[.int .u8 (dz pos), .bool true]) ∧ Scn w' bs B n c (pos + 1) line ∧ Below bs w w' := by
  obtain ⟨s0, s1, s2⟩ := h.cells
  have fz := h.frozen
  have hb := h.lt
  have hx : (dz pos == 10) = false := by simpa using x0
  have H := hide h
  have HR := hide hr
  clear h hr x0
  go_enter Trym.func30, Trym.ntmps30
  go_wp2_with fail
  refine (peek_other bs B n c pos line dz _ H.out HR.out hn hp hc).mono ?_
  rintro e w' ⟨rfl, k, rfl⟩
  go_wp2
  go_ret2
  refine ⟨rfl, ?_, ?_⟩
  · rw [show (pos : Int) + 1 = ((pos + 1 : Nat) : Int) from by omega]
    exact (H.out.drewN _).setPos _
  · exact (below_drewN (Below.refl bs w) _).setCell (p := ⟨bs, 1, none⟩) (Nat.le_refl _) _

/-- What one call of 'next' from pos on line gives. -/
structure Nx (dz : Nat → Int) (n pos line : Nat) (c : Int) (ok : Bool) (p l : Nat) : Prop where
  fin : pos = n → c = 0 ∧ ok = false ∧ p = n ∧ l = line
  cr : pos < n → isCR dz n pos → c = 10 ∧ ok = true ∧ p = pos + 2 ∧ l = line + 1
  lf : pos < n → dz pos = 10 → c = 10 ∧ ok = true ∧ p = pos + 1 ∧ l = line + 1
  one : pos < n → ¬ isCR dz n pos → dz pos ≠ 10 → c = dz pos ∧ ok = true ∧ p = pos + 1 ∧ l = line

theorem next_any (bs B n c pos line : Nat) (dz : Nat → Int) (w : World) (h : Scn w bs B n c pos line) (hr : Row w B n dz) (hB : B ≠ bs) (hn : n ≤ 1048576) (hl : line ≤ 1048577) (hp : pos ≤ n) :
    Calls Trym.prog 30 #[.pointer (some ⟨bs, 0, none⟩)] w fun e w' => ∃ (x : Int) (ok : Bool) (p l : Nat), e = .returned (.tuple #[.int .u8 x, .bool ok]) ∧ Nx dz n pos line x ok p l ∧ Scn w' bs B n c p l ∧ Below bs w w' := by
  by_cases h0 : pos = n
  · subst h0
    refine (next_end bs B pos c line w h).mono ?_
    rintro e w' ⟨rfl, h1, h2⟩
    exact ⟨0, false, pos, line, rfl, ⟨fun _ => ⟨rfl, rfl, rfl, rfl⟩, fun x => by omega, fun x => by omega, fun x => by omega⟩, h1, h2⟩
  · have hp' : pos < n := by omega
    by_cases hc : isCR dz n pos
    · refine (next_crlf bs B n c pos line dz w h hr hB hn hl hc.2.1 hc.1 hc.2.2).mono ?_
      rintro e w' ⟨rfl, h1, h2⟩
      exact ⟨10, true, pos + 2, line + 1, rfl, ⟨fun x => by omega, fun _ _ => ⟨rfl, rfl, rfl, rfl⟩, fun _ y => by have := hc.1; omega, fun _ y => absurd hc y⟩, h1, h2⟩
    · by_cases hx : dz pos = 10
      · refine (next_lf bs B n c pos line dz w h hr hB hn hl hp' hx).mono ?_
        rintro e w' ⟨rfl, h1, h2⟩
        exact ⟨10, true, pos + 1, line + 1, rfl, ⟨fun x => by omega, fun _ y => absurd y hc, fun _ _ => ⟨rfl, rfl, rfl, rfl⟩, fun _ _ z => absurd hx z⟩, h1, h2⟩
      · refine (next_other bs B n c pos line dz w h hr hB hn hp' hc hx).mono ?_
        rintro e w' ⟨rfl, h1, h2⟩
        exact ⟨dz pos, true, pos + 1, line, rfl, ⟨fun x => by omega, fun _ y => absurd y hc, fun _ z => absurd z hx, fun _ _ _ => ⟨rfl, rfl, rfl, rfl⟩⟩, h1, h2⟩

set_option maxHeartbeats 1000000 in
theorem cfgNext_any (B n c pos line : Nat) (dz : Nat → Int) (w : World) (hr : Row w B n dz) (hn : n ≤ 1048576) (hl : line ≤ 1048577) (hp : pos ≤ n) :
    Calls Trym.prog 9 #[.slice (some ⟨B, 0, none⟩) n c, .int .i64 pos, .int .i64 line] w fun e w' => ∃ (x : Int) (ok : Bool) (p l : Nat), e = .returned (.tuple #[.int .u8 x, .bool ok, .int .i64 p, .int .i64 l]) ∧ Nx dz n pos line x ok p l ∧ Below w.heap.size w w' := by
  have S0 : Hid (Scn (w.alloc (.cells #[.slice (some ⟨B, 0, none⟩) n c, .int .i64 pos, .int .i64 line] 63)) w.heap.size B n c pos line) := by
    show (w.heap.push _)[w.heap.size]? = _
    simp
  have HR := hide hr
  have hBlt := hr.lt
  clear hr
  go_enter Trym.func9, Trym.ntmps9
  go_wp2_with fail
  refine (next_any _ B n c pos line dz _ S0.out (HR.out.alloc _) (by omega) hn hl hp).mono ?_
  rintro e w1 ⟨x, ok, p, l, rfl, hN, hS, hb⟩
  obtain ⟨s0, s1, s2⟩ := hS.cells
  have F := hide (And.intro hN (((Below.refl w.heap.size w).alloc (Nat.le_refl _) (.cells #[.slice (some ⟨B, 0, none⟩) n c, .int .i64 pos, .int .i64 line] 63)).trans hb))
  clear hN hS hb S0
  go_wp2
  go_quiet (fail)
  go_wp2
  exact bodyPost_ret (v := .tuple #[.int .u8 x, .bool ok, .int .i64 p, .int .i64 l]) (by simp [results, Trym.results9, go_sem]) rfl ⟨x, ok, p, l, rfl, F.out.1, below_drewN F.out.2 _⟩

end Go.Proofs.Qxb6601415aMods
