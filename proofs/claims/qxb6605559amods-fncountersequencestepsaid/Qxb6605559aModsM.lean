import Derived.Test.Qxb6605559aModsL
namespace Go.Proofs.Qxb6605559aMods
open Go.RowKit Go.Maps
set_option linter.unusedVariables false

theorem info65 : (Trym.prog.info? 65).map (fun i => (i.zero, i.size, i.bytes)) = some (some (.agg #[.int .u32 0, .int .u8 0, .int .u32 0]), 3, 12) := by kernel_rfl

theorem make65 (len : Nat) (hlen : len ≤ 65536) (w : World) : (Instr.makeSlice 22 (.int .i64 len) (.int .i64 len)).run Trym.prog w = .ok (.slice (some ⟨w.heap.size, 0, none⟩) len len) (w.alloc (.cells (madeCells #[.int .u32 0, .int .u8 0, .int .u32 0] (len * 3)) 65)) := by
  obtain ⟨i, hi, hz0, hz1, hz2⟩ := info_parts info65
  have := run_make (P := Trym.prog) (w := w) 22 65 i _ Trym.underlying22 hi hz0 .i64 .i64 len len (by omega) (Int.le_refl _) (by rw [hz2]; omega) (by omega)
  simpa [hz1, Value.cells] using this

/-- A row of entries, cell by cell. -/
def cellE (en eh eq : Nat → Int) (j : Nat) : Value :=
  if j % 3 = 0 then .int .u32 (en (j / 3)) else if j % 3 = 1 then .int .u8 (eh (j / 3)) else .int .u32 (eq (j / 3))
theorem cellE0 (en eh eq : Nat → Int) (k : Nat) : cellE en eh eq (k * 3) = .int .u32 (en k) := by unfold cellE; rw [if_pos (by omega), show k * 3 / 3 = k from by omega]
theorem cellE1 (en eh eq : Nat → Int) (k : Nat) : cellE en eh eq (k * 3 + 1) = .int .u8 (eh k) := by unfold cellE; rw [if_neg (by omega), if_pos (by omega), show (k * 3 + 1) / 3 = k from by omega]
theorem cellE2 (en eh eq : Nat → Int) (k : Nat) : cellE en eh eq (k * 3 + 2) = .int .u32 (eq k) := by unfold cellE; rw [if_neg (by omega), if_neg (by omega), show (k * 3 + 2) / 3 = k from by omega]

/-- .. of which the first k are laid. -/
def partE (en eh eq : Nat → Int) (k j : Nat) : Value := if j < k * 3 then cellE en eh eq j else cellE (fun _ => 0) (fun _ => 0) (fun _ => 0) j

theorem partE_step {en eh eq : Nat → Int} {B len k : Nat} {wr : World} (h : wr.rowIs B 65 (len * 3) (partE en eh eq k)) :
    (((wr.setCell ⟨B, k * 3, none⟩ (.int .u32 (en k))).setCell ⟨B, k * 3 + 1, none⟩ (.int .u8 (eh k))).setCell ⟨B, k * 3 + 2, none⟩ (.int .u32 (eq k))).rowIs B 65 (len * 3) (partE en eh eq (k + 1)) := by
  refine (((h.set (k * 3) _).set (k * 3 + 1) _).set (k * 3 + 2) _).congr (fun j hj => ?_)
  unfold partE
  by_cases e2 : j = k * 3 + 2
  · rw [if_pos e2, if_pos (by omega), e2, cellE2]
  rw [if_neg e2]
  by_cases e1 : j = k * 3 + 1
  · rw [if_pos e1, if_pos (by omega), e1, cellE1]
  rw [if_neg e1]
  by_cases e0 : j = k * 3
  · rw [if_pos e0, if_pos (by omega), e0, cellE0]
  rw [if_neg e0]
  by_cases e : j < k * 3
  · rw [if_pos e, if_pos (by omega)]
  · rw [if_neg e, if_neg (by omega)]

theorem madeE_cell (n j : Nat) (hj : j < n) : (madeCells #[.int .u32 0, .int .u8 0, .int .u32 0] n)[j]? = some (cellE (fun _ => 0) (fun _ => 0) (fun _ => 0) j) := by
  unfold madeCells cellE
  have h3 : j % 3 = 0 ∨ j % 3 = 1 ∨ j % 3 = 2 := by omega
  rcases h3 with h | h | h <;> simp [hj, h]

set_option maxHeartbeats 1000000 in
theorem copyEntries_some (b off len cap : Nat) (en eh eq : Nat → Int) (w : World) (hlen : len ≤ 65536) (hb : b < w.heap.size)
    (hsrc : ∀ i, i < len → w.cell? ⟨b, off + i * 3, none⟩ = some (.int .u32 (en i)) ∧ w.cell? ⟨b, off + i * 3 + 1, none⟩ = some (.int .u8 (eh i)) ∧ w.cell? ⟨b, off + i * 3 + 2, none⟩ = some (.int .u32 (eq i))) :
    Calls Trym.prog 7 #[.slice (some ⟨b, off, none⟩) len cap] w fun er w' => er = .returned (.slice (some ⟨w.heap.size, 0, none⟩) len len) ∧ w'.rowIs w.heap.size 65 (len * 3) (cellE en eh eq) ∧ Below w.heap.size w w' := by
  have hnil := fun W : World => Lib.run_eql_slice_nil (P := Trym.prog) W 22 65 (some ⟨b, off, none⟩) len cap 0 0 Trym.underlying22
  have hmk := make65 len hlen
  have H0 : Hid ((w.alloc (.cells (madeCells #[.int .u32 0, .int .u8 0, .int .u32 0] (len * 3)) 65)).rowIs w.heap.size 65 (len * 3) (partE en eh eq 0)) := by
    have := World.rowIs_alloc w (madeCells #[.int .u32 0, .int .u8 0, .int .u32 0] (len * 3)) 65 (partE en eh eq 0) (fun i hi => by
      rw [size_madeCells] at hi
      rw [madeE_cell _ _ hi]
      unfold partE
      rw [if_neg (by omega)])
    rw [size_madeCells] at this
    exact this
  have HS := hide hsrc
  clear hsrc
  go_enter Trym.func7, Trym.ntmps7
  go_wp2
  go_loopw [4] (fun i wr => ∃ k : Nat, k ≤ len ∧ i = .int .i64 k ∧ wr.rowIs w.heap.size 65 (len * 3) (partE en eh eq k) ∧ Below w.heap.size w wr) (fun i _ => len - (intOf i).toNat)
  case atStart => exact ⟨0, Nat.zero_le _, rfl, H0.out, (Below.refl _ _).alloc (Nat.le_refl _) _⟩
  case round =>
    obtain ⟨k, hk, rfl, hrow, hbel⟩ := hrel
    by_cases hlt : k < len
    · obtain ⟨s0, s1, s2⟩ := HS.out k hlt
      have c0 : wr.cell? ⟨b, off + k * 3, none⟩ = _ := (hbel.cell (p := ⟨b, off + k * 3, none⟩) hb).trans s0
      have c1 : wr.cell? ⟨b, off + k * 3 + 1, none⟩ = _ := (hbel.cell (p := ⟨b, off + k * 3 + 1, none⟩) hb).trans s1
      have c2 : wr.cell? ⟨b, off + k * 3 + 2, none⟩ = _ := (hbel.cell (p := ⟨b, off + k * 3 + 2, none⟩) hb).trans s2
      have d0 := hrow.cell (i := k * 3) (by omega)
      have d1 := hrow.cell (i := k * 3 + 1) (by omega)
      have d2 := hrow.cell (i := k * 3 + 2) (by omega)
      have fz := hrow.frozen
      have R := partE_step hrow
      have B1 := ((hbel.setCell (p := ⟨w.heap.size, k * 3, none⟩) (Nat.le_refl _) (.int .u32 (en k))).setCell (p := ⟨w.heap.size, k * 3 + 1, none⟩) (Nat.le_refl _) (.int .u8 (eh k))).setCell (p := ⟨w.heap.size, k * 3 + 2, none⟩) (Nat.le_refl _) (.int .u32 (eq k))
      generalize partE en eh eq k (k * 3) = x0 at d0
      generalize partE en eh eq k (k * 3 + 1) = x1 at d1
      generalize partE en eh eq k (k * 3 + 2) = x2 at d2
      have HR := hide (And.intro R B1)
      clear hrow hbel s0 s1 s2 R B1
      go_wp2
      go_roundw
      case rel => exact ⟨k + 1, by omega, by go_num, HR.out.1, HR.out.2⟩
      case measure => simp [intOf]; omega
    · have : k = len := by omega
      subst this
      go_wp2
      go_ret
      exact ⟨rfl, hrow.congr (fun i hi => by unfold partE; rw [if_pos hi]), hbel⟩

theorem copyEntries_nil (w : World) : Calls Trym.prog 7 #[.slice none 0 0] w fun er w' => er = .returned (.slice none 0 0) ∧ w' = w := by
  have hnil := fun W : World => Lib.run_eql_slice_nil (P := Trym.prog) W 22 65 none 0 0 0 0 Trym.underlying22
  go_enter Trym.func7, Trym.ntmps7
  go_wp2
  go_ret
  exact ⟨rfl, rfl⟩

theorem copyEntries_empty (x : Addr) (cap : Nat) (w : World) : Calls Trym.prog 7 #[.slice (some x) 0 cap] w fun er w' => er = .returned (.slice (some ⟨w.heap.size, 0, none⟩) 0 0) ∧ Below w.heap.size w w' := by
  have hnil := fun W : World => Lib.run_eql_slice_nil (P := Trym.prog) W 22 65 (some x) 0 cap 0 0 Trym.underlying22
  have hmk := make65 0 (by omega)
  simp only [Int.natCast_zero, Nat.zero_mul] at hmk
  go_enter Trym.func7, Trym.ntmps7
  go_wp2
  refine wp_loop_rounds 1 ?_
  rw [rounds_succ]
  go_wp2
  go_ret
  exact ⟨rfl, (Below.refl _ _).alloc (Nat.le_refl _) _⟩

/-- What is known of the slice of entries that came in. -/
def SrcE (w : World) (a : Option Addr) (len cap : Nat) (en eh eq : Nat → Int) : Prop :=
  (a = none ∧ len = 0 ∧ cap = 0) ∨ (len = 0 ∧ ∃ x, a = some x) ∨
  ∃ b off, a = some ⟨b, off, none⟩ ∧ b < w.heap.size ∧ ∀ i, i < len → w.cell? ⟨b, off + i * 3, none⟩ = some (.int .u32 (en i)) ∧ w.cell? ⟨b, off + i * 3 + 1, none⟩ = some (.int .u8 (eh i)) ∧ w.cell? ⟨b, off + i * 3 + 2, none⟩ = some (.int .u32 (eq i))

/-- .. and of a copy of it. -/
def RowE (w : World) (a : Option Addr) (len : Nat) (en eh eq : Nat → Int) (B : Nat) : Prop := len = 0 ∨ (a = some ⟨B, 0, none⟩ ∧ w.rowIs B 65 (len * 3) (cellE en eh eq))

theorem SrcE.alloc {w : World} {a : Option Addr} {len cap : Nat} {en eh eq : Nat → Int} (h : SrcE w a len cap en eh eq) (o : Obj) : SrcE (w.alloc o) a len cap en eh eq := by
  rcases h with h | h | ⟨b, off, rfl, hb, hc⟩
  · exact Or.inl h
  · exact Or.inr (Or.inl h)
  · have k : Kp w (w.alloc o) (fun _ => False) := (Kp.refl w _).alloc o
    exact Or.inr (Or.inr ⟨b, off, rfl, by simp; omega, fun i hi => ⟨k.cell (hc i hi).1 (by simp), k.cell (hc i hi).2.1 (by simp), k.cell (hc i hi).2.2 (by simp)⟩⟩)

theorem copyEntries_any (a : Option Addr) (len cap : Nat) (en eh eq : Nat → Int) (w : World) (hlen : len ≤ 65536) (h : SrcE w a len cap en eh eq) :
    Calls Trym.prog 7 #[.slice a len cap] w fun er w' => ∃ a' c', er = .returned (.slice a' len c') ∧ RowE w' a' len en eh eq w.heap.size ∧ Below w.heap.size w w' := by
  rcases h with ⟨rfl, rfl, rfl⟩ | ⟨rfl, x, rfl⟩ | ⟨b, off, rfl, hb, hc⟩
  · refine (copyEntries_nil w).mono ?_
    rintro e w' ⟨rfl, rfl⟩
    exact ⟨none, 0, rfl, Or.inl rfl, Below.refl _ _⟩
  · refine (copyEntries_empty x cap w).mono ?_
    rintro e w' ⟨rfl, hb⟩
    exact ⟨_, _, rfl, Or.inl rfl, hb⟩
  · refine (copyEntries_some b off len cap en eh eq w hlen hb hc).mono ?_
    rintro e w' ⟨rfl, hr, hb⟩
    exact ⟨_, _, rfl, Or.inr ⟨rfl, hr⟩, hb⟩

end Go.Proofs.Qxb6605559aMods
