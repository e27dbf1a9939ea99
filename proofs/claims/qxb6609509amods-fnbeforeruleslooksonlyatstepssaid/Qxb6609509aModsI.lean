import Derived.Test.Qxb6609509aModsH
namespace Go.Proofs.Qxb6609509aMods
open Go.RowKit
set_option linter.unusedVariables false

set_option maxHeartbeats 2000000 in
set_option maxRecDepth 20000 in
theorem lw_nd (rc ap wr : Bool) (u md : ByteArray) (a : Option Addr) (len cap : Nat) (ss : Nat → ByteArray) (op kd dn bd dr : Int) (w : World) (hl : len ≤ 9223372036854775807) (hs : Strs w a len ss) (o0 : 0 ≤ op) (o1 : op ≤ 255) (hwr : (bits .and .u8 op 13 == 0) = !wr) :
    Calls Trym.prog 5 #[.bool true, .bool false, .string u, .slice a len cap, .bool rc, .string md, .int .u8 op, .int .u8 kd, .bool ap, .int .u8 dn, .int .u8 bd, .int .u8 dr] w fun e w' => e = .returned (.bool true) ∧ Below w.heap.size w w' := by
  obtain ⟨e13, _, _⟩ := bits13 op o0 o1
  have W1 : Hid (∀ w, Calls Trym.prog 11 #[.bool true, .bool false, .agg #[.string u, .slice a len cap, .bool rc], .string md, .int .u8 op, .int .u8 kd, .bool ap, .int .u8 dn, .int .u8 bd, .int .u8 dr] w fun e w' => e = .returned (.tuple #[.agg #[.int .u8 1, .int .u8 2, .string ⟨#[]⟩, .string ⟨#[]⟩], .bool true]) ∧ Below w.heap.size w w') :=
    fun w => br11 true rc false wr ap u md a len cap op _ kd dn bd dr w rfl hwr
  have W2 : Hid (∀ w, Calls Trym.prog 11 #[.bool true, .bool false, .agg #[.string ⟨#[]⟩, .slice none 0 0, .bool rc], .string ⟨#[]⟩, .int .u8 (bits .and .u8 op 13), .int .u8 0, .bool ap, .int .u8 0, .int .u8 0, .int .u8 0] w fun e w' => e = .returned (.tuple #[.agg #[.int .u8 1, .int .u8 2, .string ⟨#[]⟩, .string ⟨#[]⟩], .bool true]) ∧ Below w.heap.size w w') :=
    fun w => br11 true rc false wr ap ⟨#[]⟩ ⟨#[]⟩ none 0 0 (bits .and .u8 op 13) _ 0 0 0 0 w e13 hwr
  have W3 : Hid (∀ w, Calls Trym.prog 12 #[.int .u8 op] w fun e w' => e = .returned (.bool wr) ∧ w' = w) := fun w => writes_any op w wr o0 o1 hwr
  have HS := hide hs
  have q1 := eq12
  have q2 := eq00
  clear hs hwr e13
  generalize ey : bits .and .u8 op 13 = y at W2
  go_enter Trym.func5, Trym.ntmps5
  go_wp2_with fail
  refine (zz_any true false rc ap u md a len cap ss op kd dn bd dr _ hl HS.out).mono ?_
  rintro er w1 ⟨⟨r1, rfl⟩, hw1⟩
  have hw2 := hw1.symm
  clear hw1
  subst hw2
  cases r1
  · go_wp2
    go_ret
    exact ⟨rfl, Below.refl _ _⟩
  go_wp2_with fail
  refine (wb_any u md a len cap ss _ hl HS.out).mono ?_
  rintro er w1 ⟨⟨r1, rfl⟩, hw1⟩
  have hw2 := hw1.symm
  clear hw1
  subst hw2
  cases r1
  · go_wp2
    go_ret
    exact ⟨rfl, Below.refl _ _⟩
  clear HS
  go_wp2_with fail
  refine (W1.out _).mono ?_
  rintro er w1 ⟨rfl, hb1⟩
  have B1 := hide (((Below.refl w.heap.size w).alloc (Nat.le_refl _) _).trans (hb1.mono (by simp)))
  clear hb1 W1
  go_wp2_with fail
  refine (W2.out _).mono ?_
  rintro er w2 ⟨rfl, hb2⟩
  have d0 : w2.cell? ⟨w1.heap.size, 0, none⟩ = some (.int .u8 1) := (hb2.cell (p := ⟨w1.heap.size, 0, none⟩) (by simp; omega)).trans (by simp [go_sem])
  have d1 : w2.cell? ⟨w1.heap.size, 1, none⟩ = some (.int .u8 2) := (hb2.cell (p := ⟨w1.heap.size, 1, none⟩) (by simp; omega)).trans (by simp [go_sem])
  have d2 : w2.cell? ⟨w1.heap.size, 2, none⟩ = some (.string ⟨#[]⟩) := (hb2.cell (p := ⟨w1.heap.size, 2, none⟩) (by simp; omega)).trans (by simp [go_sem])
  have d3 : w2.cell? ⟨w1.heap.size, 3, none⟩ = some (.string ⟨#[]⟩) := (hb2.cell (p := ⟨w1.heap.size, 3, none⟩) (by simp; omega)).trans (by simp [go_sem])
  have z2 := hb2.size
  simp at z2
  have B2 := hide ((((B1.out.alloc B1.out.size _).alloc (by simp; have := B1.out.size; omega) _)).trans (hb2.mono (by simp; have := B1.out.size; omega)))
  have zz := B1.out.size
  have l2 : w1.heap.size < w2.heap.size := by omega
  have l3 : w1.heap.size < w2.heap.size + 1 := by omega
  have n2 : ¬ w1.heap.size = w2.heap.size := by omega
  have n3 : ¬ w1.heap.size = w2.heap.size + 1 := by omega
  clear hb2 W2 B1
  clear W3
  go_wp2
  go_ret
  exact ⟨rfl, (B2.out.alloc (by omega) _).alloc (by simp; omega) _⟩

set_option maxHeartbeats 2000000 in
set_option maxRecDepth 20000 in
theorem lw_rc (un ap wr : Bool) (u md : ByteArray) (a : Option Addr) (len cap : Nat) (ss : Nat → ByteArray) (op kd dn bd dr : Int) (w : World) (hl : len ≤ 9223372036854775807) (hs : Strs w a len ss) (o0 : 0 ≤ op) (o1 : op ≤ 255) (hwr : (bits .and .u8 op 13 == 0) = !wr) :
    Calls Trym.prog 5 #[.bool false, .bool un, .string u, .slice a len cap, .bool true, .string md, .int .u8 op, .int .u8 kd, .bool ap, .int .u8 dn, .int .u8 bd, .int .u8 dr] w fun e w' => e = .returned (.bool true) ∧ Below w.heap.size w w' := by
  obtain ⟨e13, _, _⟩ := bits13 op o0 o1
  have W1 : Hid (∀ w, Calls Trym.prog 11 #[.bool false, .bool un, .agg #[.string u, .slice a len cap, .bool true], .string md, .int .u8 op, .int .u8 kd, .bool ap, .int .u8 dn, .int .u8 bd, .int .u8 dr] w fun e w' => e = .returned (.tuple #[.agg #[.int .u8 1, .int .u8 3, .string ⟨#[]⟩, .string ⟨#[]⟩], .bool true]) ∧ Below w.heap.size w w') :=
    fun w => br11 false true un wr ap u md a len cap op _ kd dn bd dr w rfl hwr
  have W2 : Hid (∀ w, Calls Trym.prog 11 #[.bool false, .bool un, .agg #[.string ⟨#[]⟩, .slice none 0 0, .bool true], .string ⟨#[]⟩, .int .u8 (bits .and .u8 op 13), .int .u8 0, .bool ap, .int .u8 0, .int .u8 0, .int .u8 0] w fun e w' => e = .returned (.tuple #[.agg #[.int .u8 1, .int .u8 3, .string ⟨#[]⟩, .string ⟨#[]⟩], .bool true]) ∧ Below w.heap.size w w') :=
    fun w => br11 false true un wr ap ⟨#[]⟩ ⟨#[]⟩ none 0 0 (bits .and .u8 op 13) _ 0 0 0 0 w e13 hwr
  have W3 : Hid (∀ w, Calls Trym.prog 12 #[.int .u8 op] w fun e w' => e = .returned (.bool wr) ∧ w' = w) := fun w => writes_any op w wr o0 o1 hwr
  have HS := hide hs
  have q1 := eq13
  have q2 := eq00
  clear hs hwr e13
  generalize ey : bits .and .u8 op 13 = y at W2
  go_enter Trym.func5, Trym.ntmps5
  go_wp2_with fail
  refine (zz_any false un true ap u md a len cap ss op kd dn bd dr _ hl HS.out).mono ?_
  rintro er w1 ⟨⟨r1, rfl⟩, hw1⟩
  have hw2 := hw1.symm
  clear hw1
  subst hw2
  cases r1
  · go_wp2
    go_ret
    exact ⟨rfl, Below.refl _ _⟩
  go_wp2_with fail
  refine (wb_any u md a len cap ss _ hl HS.out).mono ?_
  rintro er w1 ⟨⟨r1, rfl⟩, hw1⟩
  have hw2 := hw1.symm
  clear hw1
  subst hw2
  cases r1
  · go_wp2
    go_ret
    exact ⟨rfl, Below.refl _ _⟩
  clear HS
  go_wp2_with fail
  refine (W1.out _).mono ?_
  rintro er w1 ⟨rfl, hb1⟩
  have B1 := hide (((Below.refl w.heap.size w).alloc (Nat.le_refl _) _).trans (hb1.mono (by simp)))
  clear hb1 W1
  go_wp2_with fail
  refine (W2.out _).mono ?_
  rintro er w2 ⟨rfl, hb2⟩
  have d0 : w2.cell? ⟨w1.heap.size, 0, none⟩ = some (.int .u8 1) := (hb2.cell (p := ⟨w1.heap.size, 0, none⟩) (by simp; omega)).trans (by simp [go_sem])
  have d1 : w2.cell? ⟨w1.heap.size, 1, none⟩ = some (.int .u8 3) := (hb2.cell (p := ⟨w1.heap.size, 1, none⟩) (by simp; omega)).trans (by simp [go_sem])
  have d2 : w2.cell? ⟨w1.heap.size, 2, none⟩ = some (.string ⟨#[]⟩) := (hb2.cell (p := ⟨w1.heap.size, 2, none⟩) (by simp; omega)).trans (by simp [go_sem])
  have d3 : w2.cell? ⟨w1.heap.size, 3, none⟩ = some (.string ⟨#[]⟩) := (hb2.cell (p := ⟨w1.heap.size, 3, none⟩) (by simp; omega)).trans (by simp [go_sem])
  have z2 := hb2.size
  simp at z2
  have B2 := hide ((((B1.out.alloc B1.out.size _).alloc (by simp; have := B1.out.size; omega) _)).trans (hb2.mono (by simp; have := B1.out.size; omega)))
  have zz := B1.out.size
  have l2 : w1.heap.size < w2.heap.size := by omega
  have l3 : w1.heap.size < w2.heap.size + 1 := by omega
  have n2 : ¬ w1.heap.size = w2.heap.size := by omega
  have n3 : ¬ w1.heap.size = w2.heap.size + 1 := by omega
  clear hb2 W2 B1
  clear W3
  go_wp2
  go_ret
  exact ⟨rfl, (B2.out.alloc (by omega) _).alloc (by simp; omega) _⟩

set_option maxHeartbeats 2000000 in
set_option maxRecDepth 20000 in
theorem lw_un (ap : Bool) (u md : ByteArray) (a : Option Addr) (len cap : Nat) (ss : Nat → ByteArray) (op kd dn bd dr : Int) (w : World) (hl : len ≤ 9223372036854775807) (hs : Strs w a len ss) (o0 : 0 ≤ op) (o1 : op ≤ 255) (hwr : (bits .and .u8 op 13 == 0) = !true) :
    Calls Trym.prog 5 #[.bool false, .bool true, .string u, .slice a len cap, .bool false, .string md, .int .u8 op, .int .u8 kd, .bool ap, .int .u8 dn, .int .u8 bd, .int .u8 dr] w fun e w' => e = .returned (.bool true) ∧ Below w.heap.size w w' := by
  obtain ⟨e13, _, _⟩ := bits13 op o0 o1
  have W1 : Hid (∀ w, Calls Trym.prog 11 #[.bool false, .bool true, .agg #[.string u, .slice a len cap, .bool false], .string md, .int .u8 op, .int .u8 kd, .bool ap, .int .u8 dn, .int .u8 bd, .int .u8 dr] w fun e w' => e = .returned (.tuple #[.agg #[.int .u8 0, .int .u8 12, .string ⟨#[]⟩, .string ⟨#[]⟩], .bool true]) ∧ Below w.heap.size w w') :=
    fun w => br11 false false true true ap u md a len cap op _ kd dn bd dr w rfl hwr
  have W2 : Hid (∀ w, Calls Trym.prog 11 #[.bool false, .bool true, .agg #[.string ⟨#[]⟩, .slice none 0 0, .bool false], .string ⟨#[]⟩, .int .u8 (bits .and .u8 op 13), .int .u8 0, .bool ap, .int .u8 0, .int .u8 0, .int .u8 0] w fun e w' => e = .returned (.tuple #[.agg #[.int .u8 0, .int .u8 12, .string ⟨#[]⟩, .string ⟨#[]⟩], .bool true]) ∧ Below w.heap.size w w') :=
    fun w => br11 false false true true ap ⟨#[]⟩ ⟨#[]⟩ none 0 0 (bits .and .u8 op 13) _ 0 0 0 0 w e13 hwr
  have W3 : Hid (∀ w, Calls Trym.prog 12 #[.int .u8 op] w fun e w' => e = .returned (.bool true) ∧ w' = w) := fun w => writes_any op w true o0 o1 hwr
  have HS := hide hs
  have q1 := eq0c
  have q2 := eq00
  clear hs hwr e13
  generalize ey : bits .and .u8 op 13 = y at W2
  go_enter Trym.func5, Trym.ntmps5
  go_wp2_with fail
  refine (zz_any false true false ap u md a len cap ss op kd dn bd dr _ hl HS.out).mono ?_
  rintro er w1 ⟨⟨r1, rfl⟩, hw1⟩
  have hw2 := hw1.symm
  clear hw1
  subst hw2
  cases r1
  · go_wp2
    go_ret
    exact ⟨rfl, Below.refl _ _⟩
  go_wp2_with fail
  refine (wb_any u md a len cap ss _ hl HS.out).mono ?_
  rintro er w1 ⟨⟨r1, rfl⟩, hw1⟩
  have hw2 := hw1.symm
  clear hw1
  subst hw2
  cases r1
  · go_wp2
    go_ret
    exact ⟨rfl, Below.refl _ _⟩
  clear HS
  go_wp2_with fail
  refine (W1.out _).mono ?_
  rintro er w1 ⟨rfl, hb1⟩
  have B1 := hide (((Below.refl w.heap.size w).alloc (Nat.le_refl _) _).trans (hb1.mono (by simp)))
  clear hb1 W1
  go_wp2_with fail
  refine (W2.out _).mono ?_
  rintro er w2 ⟨rfl, hb2⟩
  have d0 : w2.cell? ⟨w1.heap.size, 0, none⟩ = some (.int .u8 0) := (hb2.cell (p := ⟨w1.heap.size, 0, none⟩) (by simp; omega)).trans (by simp [go_sem])
  have d1 : w2.cell? ⟨w1.heap.size, 1, none⟩ = some (.int .u8 12) := (hb2.cell (p := ⟨w1.heap.size, 1, none⟩) (by simp; omega)).trans (by simp [go_sem])
  have d2 : w2.cell? ⟨w1.heap.size, 2, none⟩ = some (.string ⟨#[]⟩) := (hb2.cell (p := ⟨w1.heap.size, 2, none⟩) (by simp; omega)).trans (by simp [go_sem])
  have d3 : w2.cell? ⟨w1.heap.size, 3, none⟩ = some (.string ⟨#[]⟩) := (hb2.cell (p := ⟨w1.heap.size, 3, none⟩) (by simp; omega)).trans (by simp [go_sem])
  have z2 := hb2.size
  simp at z2
  have B2 := hide ((((B1.out.alloc B1.out.size _).alloc (by simp; have := B1.out.size; omega) _)).trans (hb2.mono (by simp; have := B1.out.size; omega)))
  have zz := B1.out.size
  have l2 : w1.heap.size < w2.heap.size := by omega
  have l3 : w1.heap.size < w2.heap.size + 1 := by omega
  have n2 : ¬ w1.heap.size = w2.heap.size := by omega
  have n3 : ¬ w1.heap.size = w2.heap.size + 1 := by omega
  clear hb2 W2 B1
  go_wp2_with fail
  refine (W3.out _).mono ?_
  rintro er w3 ⟨rfl, hw1⟩
  have hw2 := hw1.symm
  clear hw1
  subst hw2
  clear W3
  go_wp2
  go_ret
  exact ⟨rfl, (B2.out.alloc (by omega) _).alloc (by simp; omega) _⟩

set_option maxHeartbeats 2000000 in
set_option maxRecDepth 20000 in
theorem lw_unap (u md : ByteArray) (a : Option Addr) (len cap : Nat) (ss : Nat → ByteArray) (op kd dn bd dr : Int) (w : World) (hl : len ≤ 9223372036854775807) (hs : Strs w a len ss) (o0 : 0 ≤ op) (o1 : op ≤ 255) (hwr : (bits .and .u8 op 13 == 0) = !false) :
    Calls Trym.prog 5 #[.bool false, .bool true, .string u, .slice a len cap, .bool false, .string md, .int .u8 op, .int .u8 kd, .bool true, .int .u8 dn, .int .u8 bd, .int .u8 dr] w fun e w' => e = .returned (.bool true) ∧ Below w.heap.size w w' := by
  obtain ⟨e13, _, _⟩ := bits13 op o0 o1
  have W1 : Hid (∀ w, Calls Trym.prog 11 #[.bool false, .bool true, .agg #[.string u, .slice a len cap, .bool false], .string md, .int .u8 op, .int .u8 kd, .bool true, .int .u8 dn, .int .u8 bd, .int .u8 dr] w fun e w' => e = .returned (.tuple #[.agg #[.int .u8 1, .int .u8 4, .string ⟨#[]⟩, .string ⟨#[]⟩], .bool true]) ∧ Below w.heap.size w w') :=
    fun w => br11 false false true false true u md a len cap op _ kd dn bd dr w rfl hwr
  have W2 : Hid (∀ w, Calls Trym.prog 11 #[.bool false, .bool true, .agg #[.string ⟨#[]⟩, .slice none 0 0, .bool false], .string ⟨#[]⟩, .int .u8 (bits .and .u8 op 13), .int .u8 0, .bool true, .int .u8 0, .int .u8 0, .int .u8 0] w fun e w' => e = .returned (.tuple #[.agg #[.int .u8 1, .int .u8 4, .string ⟨#[]⟩, .string ⟨#[]⟩], .bool true]) ∧ Below w.heap.size w w') :=
    fun w => br11 false false true false true ⟨#[]⟩ ⟨#[]⟩ none 0 0 (bits .and .u8 op 13) _ 0 0 0 0 w e13 hwr
  have W3 : Hid (∀ w, Calls Trym.prog 12 #[.int .u8 op] w fun e w' => e = .returned (.bool false) ∧ w' = w) := fun w => writes_any op w false o0 o1 hwr
  have HS := hide hs
  have q1 := eq14
  have q2 := eq00
  clear hs hwr e13
  generalize ey : bits .and .u8 op 13 = y at W2
  go_enter Trym.func5, Trym.ntmps5
  go_wp2_with fail
  refine (zz_any false true false true u md a len cap ss op kd dn bd dr _ hl HS.out).mono ?_
  rintro er w1 ⟨⟨r1, rfl⟩, hw1⟩
  have hw2 := hw1.symm
  clear hw1
  subst hw2
  cases r1
  · go_wp2
    go_ret
    exact ⟨rfl, Below.refl _ _⟩
  go_wp2_with fail
  refine (wb_any u md a len cap ss _ hl HS.out).mono ?_
  rintro er w1 ⟨⟨r1, rfl⟩, hw1⟩
  have hw2 := hw1.symm
  clear hw1
  subst hw2
  cases r1
  · go_wp2
    go_ret
    exact ⟨rfl, Below.refl _ _⟩
  clear HS
  go_wp2_with fail
  refine (W1.out _).mono ?_
  rintro er w1 ⟨rfl, hb1⟩
  have B1 := hide (((Below.refl w.heap.size w).alloc (Nat.le_refl _) _).trans (hb1.mono (by simp)))
  clear hb1 W1
  go_wp2_with fail
  refine (W2.out _).mono ?_
  rintro er w2 ⟨rfl, hb2⟩
  have d0 : w2.cell? ⟨w1.heap.size, 0, none⟩ = some (.int .u8 1) := (hb2.cell (p := ⟨w1.heap.size, 0, none⟩) (by simp; omega)).trans (by simp [go_sem])
  have d1 : w2.cell? ⟨w1.heap.size, 1, none⟩ = some (.int .u8 4) := (hb2.cell (p := ⟨w1.heap.size, 1, none⟩) (by simp; omega)).trans (by simp [go_sem])
  have d2 : w2.cell? ⟨w1.heap.size, 2, none⟩ = some (.string ⟨#[]⟩) := (hb2.cell (p := ⟨w1.heap.size, 2, none⟩) (by simp; omega)).trans (by simp [go_sem])
  have d3 : w2.cell? ⟨w1.heap.size, 3, none⟩ = some (.string ⟨#[]⟩) := (hb2.cell (p := ⟨w1.heap.size, 3, none⟩) (by simp; omega)).trans (by simp [go_sem])
  have z2 := hb2.size
  simp at z2
  have B2 := hide ((((B1.out.alloc B1.out.size _).alloc (by simp; have := B1.out.size; omega) _)).trans (hb2.mono (by simp; have := B1.out.size; omega)))
  have zz := B1.out.size
  have l2 : w1.heap.size < w2.heap.size := by omega
  have l3 : w1.heap.size < w2.heap.size + 1 := by omega
  have n2 : ¬ w1.heap.size = w2.heap.size := by omega
  have n3 : ¬ w1.heap.size = w2.heap.size + 1 := by omega
  clear hb2 W2 B1
  go_wp2_with fail
  refine (W3.out _).mono ?_
  rintro er w3 ⟨rfl, hw1⟩
  have hw2 := hw1.symm
  clear hw1
  subst hw2
  clear W3
  go_wp2
  go_ret
  exact ⟨rfl, (B2.out.alloc (by omega) _).alloc (by simp; omega) _⟩

set_option maxHeartbeats 2000000 in
set_option maxRecDepth 20000 in
theorem lw_unno (u md : ByteArray) (a : Option Addr) (len cap : Nat) (ss : Nat → ByteArray) (op kd dn bd dr : Int) (w : World) (hl : len ≤ 9223372036854775807) (hs : Strs w a len ss) (o0 : 0 ≤ op) (o1 : op ≤ 255) (hwr : (bits .and .u8 op 13 == 0) = !false) :
    Calls Trym.prog 5 #[.bool false, .bool true, .string u, .slice a len cap, .bool false, .string md, .int .u8 op, .int .u8 kd, .bool false, .int .u8 dn, .int .u8 bd, .int .u8 dr] w fun e w' => e = .returned (.bool true) ∧ Below w.heap.size w w' := by
  obtain ⟨e13, _, _⟩ := bits13 op o0 o1
  have W1 : Hid (∀ w, Calls Trym.prog 11 #[.bool false, .bool true, .agg #[.string u, .slice a len cap, .bool false], .string md, .int .u8 op, .int .u8 kd, .bool false, .int .u8 dn, .int .u8 bd, .int .u8 dr] w fun e w' => e = .returned (.tuple #[.agg #[.int .u8 0, .int .u8 0, .string ⟨#[]⟩, .string ⟨#[]⟩], .bool false]) ∧ Below w.heap.size w w') :=
    fun w => br11 false false true false false u md a len cap op _ kd dn bd dr w rfl hwr
  have W2 : Hid (∀ w, Calls Trym.prog 11 #[.bool false, .bool true, .agg #[.string ⟨#[]⟩, .slice none 0 0, .bool false], .string ⟨#[]⟩, .int .u8 (bits .and .u8 op 13), .int .u8 0, .bool false, .int .u8 0, .int .u8 0, .int .u8 0] w fun e w' => e = .returned (.tuple #[.agg #[.int .u8 0, .int .u8 0, .string ⟨#[]⟩, .string ⟨#[]⟩], .bool false]) ∧ Below w.heap.size w w') :=
    fun w => br11 false false true false false ⟨#[]⟩ ⟨#[]⟩ none 0 0 (bits .and .u8 op 13) _ 0 0 0 0 w e13 hwr
  have W3 : Hid (∀ w, Calls Trym.prog 12 #[.int .u8 op] w fun e w' => e = .returned (.bool false) ∧ w' = w) := fun w => writes_any op w false o0 o1 hwr
  have HS := hide hs
  have q1 := eq00
  have q2 := eq00
  clear hs hwr e13
  generalize ey : bits .and .u8 op 13 = y at W2
  go_enter Trym.func5, Trym.ntmps5
  go_wp2_with fail
  refine (zz_any false true false false u md a len cap ss op kd dn bd dr _ hl HS.out).mono ?_
  rintro er w1 ⟨⟨r1, rfl⟩, hw1⟩
  have hw2 := hw1.symm
  clear hw1
  subst hw2
  cases r1
  · go_wp2
    go_ret
    exact ⟨rfl, Below.refl _ _⟩
  go_wp2_with fail
  refine (wb_any u md a len cap ss _ hl HS.out).mono ?_
  rintro er w1 ⟨⟨r1, rfl⟩, hw1⟩
  have hw2 := hw1.symm
  clear hw1
  subst hw2
  cases r1
  · go_wp2
    go_ret
    exact ⟨rfl, Below.refl _ _⟩
  clear HS
  go_wp2_with fail
  refine (W1.out _).mono ?_
  rintro er w1 ⟨rfl, hb1⟩
  have B1 := hide (((Below.refl w.heap.size w).alloc (Nat.le_refl _) _).trans (hb1.mono (by simp)))
  clear hb1 W1
  go_wp2_with fail
  refine (W2.out _).mono ?_
  rintro er w2 ⟨rfl, hb2⟩
  have d0 : w2.cell? ⟨w1.heap.size, 0, none⟩ = some (.int .u8 0) := (hb2.cell (p := ⟨w1.heap.size, 0, none⟩) (by simp; omega)).trans (by simp [go_sem])
  have d1 : w2.cell? ⟨w1.heap.size, 1, none⟩ = some (.int .u8 0) := (hb2.cell (p := ⟨w1.heap.size, 1, none⟩) (by simp; omega)).trans (by simp [go_sem])
  have d2 : w2.cell? ⟨w1.heap.size, 2, none⟩ = some (.string ⟨#[]⟩) := (hb2.cell (p := ⟨w1.heap.size, 2, none⟩) (by simp; omega)).trans (by simp [go_sem])
  have d3 : w2.cell? ⟨w1.heap.size, 3, none⟩ = some (.string ⟨#[]⟩) := (hb2.cell (p := ⟨w1.heap.size, 3, none⟩) (by simp; omega)).trans (by simp [go_sem])
  have z2 := hb2.size
  simp at z2
  have B2 := hide ((((B1.out.alloc B1.out.size _).alloc (by simp; have := B1.out.size; omega) _)).trans (hb2.mono (by simp; have := B1.out.size; omega)))
  have zz := B1.out.size
  have l2 : w1.heap.size < w2.heap.size := by omega
  have l3 : w1.heap.size < w2.heap.size + 1 := by omega
  have n2 : ¬ w1.heap.size = w2.heap.size := by omega
  have n3 : ¬ w1.heap.size = w2.heap.size + 1 := by omega
  clear hb2 W2 B1
  go_wp2_with fail
  refine (W3.out _).mono ?_
  rintro er w3 ⟨rfl, hw1⟩
  have hw2 := hw1.symm
  clear hw1
  subst hw2
  clear W3
  go_wp2
  go_ret
  exact ⟨rfl, (B2.out.alloc (by omega) _).alloc (by simp; omega) _⟩

set_option maxHeartbeats 2000000 in
set_option maxRecDepth 20000 in
theorem lw_ap (wr : Bool) (u md : ByteArray) (a : Option Addr) (len cap : Nat) (ss : Nat → ByteArray) (op kd dn bd dr : Int) (w : World) (hl : len ≤ 9223372036854775807) (hs : Strs w a len ss) (o0 : 0 ≤ op) (o1 : op ≤ 255) (hwr : (bits .and .u8 op 13 == 0) = !wr) :
    Calls Trym.prog 5 #[.bool false, .bool false, .string u, .slice a len cap, .bool false, .string md, .int .u8 op, .int .u8 kd, .bool true, .int .u8 dn, .int .u8 bd, .int .u8 dr] w fun e w' => e = .returned (.bool true) ∧ Below w.heap.size w w' := by
  obtain ⟨e13, _, _⟩ := bits13 op o0 o1
  have W1 : Hid (∀ w, Calls Trym.prog 11 #[.bool false, .bool false, .agg #[.string u, .slice a len cap, .bool false], .string md, .int .u8 op, .int .u8 kd, .bool true, .int .u8 dn, .int .u8 bd, .int .u8 dr] w fun e w' => e = .returned (.tuple #[.agg #[.int .u8 1, .int .u8 4, .string ⟨#[]⟩, .string ⟨#[]⟩], .bool true]) ∧ Below w.heap.size w w') :=
    fun w => br11 false false false wr true u md a len cap op _ kd dn bd dr w rfl hwr
  have W2 : Hid (∀ w, Calls Trym.prog 11 #[.bool false, .bool false, .agg #[.string ⟨#[]⟩, .slice none 0 0, .bool false], .string ⟨#[]⟩, .int .u8 (bits .and .u8 op 13), .int .u8 0, .bool true, .int .u8 0, .int .u8 0, .int .u8 0] w fun e w' => e = .returned (.tuple #[.agg #[.int .u8 1, .int .u8 4, .string ⟨#[]⟩, .string ⟨#[]⟩], .bool true]) ∧ Below w.heap.size w w') :=
    fun w => br11 false false false wr true ⟨#[]⟩ ⟨#[]⟩ none 0 0 (bits .and .u8 op 13) _ 0 0 0 0 w e13 hwr
  have W3 : Hid (∀ w, Calls Trym.prog 12 #[.int .u8 op] w fun e w' => e = .returned (.bool wr) ∧ w' = w) := fun w => writes_any op w wr o0 o1 hwr
  have HS := hide hs
  have q1 := eq14
  have q2 := eq00
  clear hs hwr e13
  generalize ey : bits .and .u8 op 13 = y at W2
  go_enter Trym.func5, Trym.ntmps5
  go_wp2_with fail
  refine (zz_any false false false true u md a len cap ss op kd dn bd dr _ hl HS.out).mono ?_
  rintro er w1 ⟨⟨r1, rfl⟩, hw1⟩
  have hw2 := hw1.symm
  clear hw1
  subst hw2
  cases r1
  · go_wp2
    go_ret
    exact ⟨rfl, Below.refl _ _⟩
  go_wp2_with fail
  refine (wb_any u md a len cap ss _ hl HS.out).mono ?_
  rintro er w1 ⟨⟨r1, rfl⟩, hw1⟩
  have hw2 := hw1.symm
  clear hw1
  subst hw2
  cases r1
  · go_wp2
    go_ret
    exact ⟨rfl, Below.refl _ _⟩
  clear HS
  go_wp2_with fail
  refine (W1.out _).mono ?_
  rintro er w1 ⟨rfl, hb1⟩
  have B1 := hide (((Below.refl w.heap.size w).alloc (Nat.le_refl _) _).trans (hb1.mono (by simp)))
  clear hb1 W1
  go_wp2_with fail
  refine (W2.out _).mono ?_
  rintro er w2 ⟨rfl, hb2⟩
  have d0 : w2.cell? ⟨w1.heap.size, 0, none⟩ = some (.int .u8 1) := (hb2.cell (p := ⟨w1.heap.size, 0, none⟩) (by simp; omega)).trans (by simp [go_sem])
  have d1 : w2.cell? ⟨w1.heap.size, 1, none⟩ = some (.int .u8 4) := (hb2.cell (p := ⟨w1.heap.size, 1, none⟩) (by simp; omega)).trans (by simp [go_sem])
  have d2 : w2.cell? ⟨w1.heap.size, 2, none⟩ = some (.string ⟨#[]⟩) := (hb2.cell (p := ⟨w1.heap.size, 2, none⟩) (by simp; omega)).trans (by simp [go_sem])
  have d3 : w2.cell? ⟨w1.heap.size, 3, none⟩ = some (.string ⟨#[]⟩) := (hb2.cell (p := ⟨w1.heap.size, 3, none⟩) (by simp; omega)).trans (by simp [go_sem])
  have z2 := hb2.size
  simp at z2
  have B2 := hide ((((B1.out.alloc B1.out.size _).alloc (by simp; have := B1.out.size; omega) _)).trans (hb2.mono (by simp; have := B1.out.size; omega)))
  have zz := B1.out.size
  have l2 : w1.heap.size < w2.heap.size := by omega
  have l3 : w1.heap.size < w2.heap.size + 1 := by omega
  have n2 : ¬ w1.heap.size = w2.heap.size := by omega
  have n3 : ¬ w1.heap.size = w2.heap.size + 1 := by omega
  clear hb2 W2 B1
  clear W3
  go_wp2
  go_ret
  exact ⟨rfl, (B2.out.alloc (by omega) _).alloc (by simp; omega) _⟩

set_option maxHeartbeats 2000000 in
set_option maxRecDepth 20000 in
theorem lw_no (wr : Bool) (u md : ByteArray) (a : Option Addr) (len cap : Nat) (ss : Nat → ByteArray) (op kd dn bd dr : Int) (w : World) (hl : len ≤ 9223372036854775807) (hs : Strs w a len ss) (o0 : 0 ≤ op) (o1 : op ≤ 255) (hwr : (bits .and .u8 op 13 == 0) = !wr) :
    Calls Trym.prog 5 #[.bool false, .bool false, .string u, .slice a len cap, .bool false, .string md, .int .u8 op, .int .u8 kd, .bool false, .int .u8 dn, .int .u8 bd, .int .u8 dr] w fun e w' => e = .returned (.bool true) ∧ Below w.heap.size w w' := by
  obtain ⟨e13, _, _⟩ := bits13 op o0 o1
  have W1 : Hid (∀ w, Calls Trym.prog 11 #[.bool false, .bool false, .agg #[.string u, .slice a len cap, .bool false], .string md, .int .u8 op, .int .u8 kd, .bool false, .int .u8 dn, .int .u8 bd, .int .u8 dr] w fun e w' => e = .returned (.tuple #[.agg #[.int .u8 0, .int .u8 0, .string ⟨#[]⟩, .string ⟨#[]⟩], .bool false]) ∧ Below w.heap.size w w') :=
    fun w => br11 false false false wr false u md a len cap op _ kd dn bd dr w rfl hwr
  have W2 : Hid (∀ w, Calls Trym.prog 11 #[.bool false, .bool false, .agg #[.string ⟨#[]⟩, .slice none 0 0, .bool false], .string ⟨#[]⟩, .int .u8 (bits .and .u8 op 13), .int .u8 0, .bool false, .int .u8 0, .int .u8 0, .int .u8 0] w fun e w' => e = .returned (.tuple #[.agg #[.int .u8 0, .int .u8 0, .string ⟨#[]⟩, .string ⟨#[]⟩], .bool false]) ∧ Below w.heap.size w w') :=
    fun w => br11 false false false wr false ⟨#[]⟩ ⟨#[]⟩ none 0 0 (bits .and .u8 op 13) _ 0 0 0 0 w e13 hwr
  have W3 : Hid (∀ w, Calls Trym.prog 12 #[.int .u8 op] w fun e w' => e = .returned (.bool wr) ∧ w' = w) := fun w => writes_any op w wr o0 o1 hwr
  have HS := hide hs
  have q1 := eq00
  have q2 := eq00
  clear hs hwr e13
  generalize ey : bits .and .u8 op 13 = y at W2
  go_enter Trym.func5, Trym.ntmps5
  go_wp2_with fail
  refine (zz_any false false false false u md a len cap ss op kd dn bd dr _ hl HS.out).mono ?_
  rintro er w1 ⟨⟨r1, rfl⟩, hw1⟩
  have hw2 := hw1.symm
  clear hw1
  subst hw2
  cases r1
  · go_wp2
    go_ret
    exact ⟨rfl, Below.refl _ _⟩
  go_wp2_with fail
  refine (wb_any u md a len cap ss _ hl HS.out).mono ?_
  rintro er w1 ⟨⟨r1, rfl⟩, hw1⟩
  have hw2 := hw1.symm
  clear hw1
  subst hw2
  cases r1
  · go_wp2
    go_ret
    exact ⟨rfl, Below.refl _ _⟩
  clear HS
  go_wp2_with fail
  refine (W1.out _).mono ?_
  rintro er w1 ⟨rfl, hb1⟩
  have B1 := hide (((Below.refl w.heap.size w).alloc (Nat.le_refl _) _).trans (hb1.mono (by simp)))
  clear hb1 W1
  go_wp2_with fail
  refine (W2.out _).mono ?_
  rintro er w2 ⟨rfl, hb2⟩
  have d0 : w2.cell? ⟨w1.heap.size, 0, none⟩ = some (.int .u8 0) := (hb2.cell (p := ⟨w1.heap.size, 0, none⟩) (by simp; omega)).trans (by simp [go_sem])
  have d1 : w2.cell? ⟨w1.heap.size, 1, none⟩ = some (.int .u8 0) := (hb2.cell (p := ⟨w1.heap.size, 1, none⟩) (by simp; omega)).trans (by simp [go_sem])
  have d2 : w2.cell? ⟨w1.heap.size, 2, none⟩ = some (.string ⟨#[]⟩) := (hb2.cell (p := ⟨w1.heap.size, 2, none⟩) (by simp; omega)).trans (by simp [go_sem])
  have d3 : w2.cell? ⟨w1.heap.size, 3, none⟩ = some (.string ⟨#[]⟩) := (hb2.cell (p := ⟨w1.heap.size, 3, none⟩) (by simp; omega)).trans (by simp [go_sem])
  have z2 := hb2.size
  simp at z2
  have B2 := hide ((((B1.out.alloc B1.out.size _).alloc (by simp; have := B1.out.size; omega) _)).trans (hb2.mono (by simp; have := B1.out.size; omega)))
  have zz := B1.out.size
  have l2 : w1.heap.size < w2.heap.size := by omega
  have l3 : w1.heap.size < w2.heap.size + 1 := by omega
  have n2 : ¬ w1.heap.size = w2.heap.size := by omega
  have n3 : ¬ w1.heap.size = w2.heap.size + 1 := by omega
  clear hb2 W2 B1
  clear W3
  go_wp2
  go_ret
  exact ⟨rfl, (B2.out.alloc (by omega) _).alloc (by simp; omega) _⟩

set_option maxHeartbeats 2000000 in
theorem lw_early (rc ap : Bool) (u md : ByteArray) (a : Option Addr) (len cap : Nat) (ss : Nat → ByteArray) (op kd dn bd dr : Int) (w : World) (hl : len ≤ 9223372036854775807) (hs : Strs w a len ss) :
    Calls Trym.prog 5 #[.bool true, .bool true, .string u, .slice a len cap, .bool rc, .string md, .int .u8 op, .int .u8 kd, .bool ap, .int .u8 dn, .int .u8 bd, .int .u8 dr] w fun e w' => e = .returned (.bool true) ∧ Below w.heap.size w w' := by
  have HS := hide hs
  clear hs
  go_enter Trym.func5, Trym.ntmps5
  go_wp2_with fail
  refine (zz_any true true rc ap u md a len cap ss op kd dn bd dr _ hl HS.out).mono ?_
  rintro er w1 ⟨⟨r1, rfl⟩, hw1⟩
  have hw2 := hw1.symm
  clear hw1
  subst hw2
  cases r1
  · go_wp2
    go_ret
    exact ⟨rfl, Below.refl _ _⟩
  go_wp2_with fail
  refine (wb_any u md a len cap ss _ hl HS.out).mono ?_
  rintro er w1 ⟨⟨r1, rfl⟩, hw1⟩
  have hw2 := hw1.symm
  clear hw1
  subst hw2
  cases r1
  · go_wp2
    go_ret
    exact ⟨rfl, Below.refl _ _⟩
  go_wp2
  go_ret
  exact ⟨rfl, Below.refl _ _⟩

theorem lw_any (nd un rc ap : Bool) (u md : ByteArray) (a : Option Addr) (len cap : Nat) (ss : Nat → ByteArray) (op kd dn bd dr : Int) (w : World) (hl : len ≤ 9223372036854775807) (hs : Strs w a len ss) (o0 : 0 ≤ op) (o1 : op ≤ 255) :
    Calls Trym.prog 5 #[.bool nd, .bool un, .string u, .slice a len cap, .bool rc, .string md, .int .u8 op, .int .u8 kd, .bool ap, .int .u8 dn, .int .u8 bd, .int .u8 dr] w fun e w' => e = .returned (.bool true) ∧ Below w.heap.size w w' := by
  obtain ⟨wr, hwr⟩ : ∃ wr, (bits .and .u8 op 13 == 0) = !wr := ⟨!(bits .and .u8 op 13 == 0), by simp⟩
  cases nd
  · cases rc
    · cases un
      · cases ap
        · exact lw_no wr u md a len cap ss op kd dn bd dr w hl hs o0 o1 hwr
        · exact lw_ap wr u md a len cap ss op kd dn bd dr w hl hs o0 o1 hwr
      · cases wr
        · cases ap
          · exact lw_unno u md a len cap ss op kd dn bd dr w hl hs o0 o1 hwr
          · exact lw_unap u md a len cap ss op kd dn bd dr w hl hs o0 o1 hwr
        · exact lw_un ap u md a len cap ss op kd dn bd dr w hl hs o0 o1 hwr
    · exact lw_rc un ap wr u md a len cap ss op kd dn bd dr w hl hs o0 o1 hwr
  · cases un
    · exact lw_nd rc ap wr u md a len cap ss op kd dn bd dr w hl hs o0 o1 hwr
    · exact lw_early rc ap u md a len cap ss op kd dn bd dr w hl hs

end Go.Proofs.Qxb6609509aMods
