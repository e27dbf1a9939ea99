import Derived.Test.Qxb6605559aModsK
namespace Go.Proofs.Qxb6605559aMods
open Go.RowKit Go.Maps
set_option linter.unusedVariables false

theorem hide {p : Prop} (h : p) : Hid p := h

theorem ownM_made (w : World) : OwnM (w.alloc (.map #[] 0)) w.heap.size (.map []) := World.ownsMap_made (H := Unit) w Trym.prog 23 (plainElem Trym.prog 26)

/-- What the law's loop keeps. -/
def RunAt (gv gh gq gn : Nat → Int) (w : World) (len bc k : Nat) (L : Int) (wr : World) : Prop :=
  ∃ (D DM : DataW Unit) (mv : Value) (nd hw q : Int) (hc : Bool), RunInv gh gq gn k L D DM nd hw q hc ∧ Ctr wr bc 0 0 0 0 0 L 0 mv nd hw q hc ∧ Lst wr mv D ∧ OwnM wr (bc + 1) DM ∧ wr.rowIs w.heap.size 30 (len * 4) (cellG gv gh gq gn) ∧
    (∀ i, mv = .map (some i) → bc + 1 < i) ∧ w.heap.size < bc ∧ Below w.heap.size w wr

theorem run_round {gv gh gq gn : Nat → Int} {w w2 w3 w4 : World} {len bc k : Nat} {L : Int} {D DM : DataW Unit} {mv : Value} {nd hw q : Int} {hc : Bool} (I : RunInv gh gq gn k L D DM nd hw q hc) (C2 : Ctr w2 bc 0 0 0 0 0 L 0 mv nd hw q hc) (L2 : Lst w2 mv D)
    (M2 : OwnM w2 (bc + 1) (DM.put (k64 (gn k) (gh k)) (.lit (.int .u32 (gq k))))) (R2 : w2.rowIs w.heap.size 30 (len * 4) (cellG gv gh gq gn)) (hmv : ∀ i, mv = .map (some i) → bc + 1 < i) (B2 : Below w.heap.size w w2) (hB : w.heap.size < bc) (hb3 : Below w2.heap.size w2 w3) (hk : k < 65536)
    (wn : (Lit.int .u32 (gn k)).wf = true) (wh : (Lit.int .u8 (gh k)).wf = true) (wq : (Lit.int .u32 (gq k)).wf = true) (P : SeqPost w3 bc 0 0 0 0 0 L 0 mv nd hw q hc D (gh k) (gq k) (gn k) w4) :
    ∃ L', RunAt gv gh gq gn w len bc (k + 1) L' w4 ∧ L' = if Maps.has DM (k64 (gn k) (gh k)) = true then (L + lostF (numAt DM (k64 (gn k) (gh k))) (gq k)) % 18446744073709551616 else L := by
  obtain ⟨mv', D', L', hrel, hctr, hl, hnew, hk4⟩ := P
  obtain ⟨I', hL'⟩ := runInv_step I hk wn wh wq hrel
  have k3 := Kp.ofBelow hb3
  have s2 := B2.size
  have s3 := hb3.size
  have zc := C2.lt
  have zm := M2.lt
  have zr := R2.lt
  have M3 := k3.ownM M2 (by omega)
  have R3 := k3.row R2 (by omega)
  have hmap : ∀ i, mv = .map (some i) → i < w2.heap.size := fun i e => L2.lt e
  refine ⟨L', ⟨D', _, mv', _, _, _, _, I', hctr, hl, hk4.ownM M3 ?_, hk4.row R3 ?_, ?_, hB, ?_⟩, hL'⟩
  · rintro (e | e)
    · omega
    · have := hmv _ e; omega
  · rintro (e | e)
    · omega
    · have := hmv _ e; omega
  · intro i e
    rcases hnew i e with e1 | e1
    · exact hmv i e1
    · omega
  · refine Kp.toBelow (B2.trans (hb3.mono (by omega))) hk4 (by omega) (fun i hi => ?_)
    rintro (e | e)
    · omega
    · have := hmv _ e; omega

set_option maxHeartbeats 2000000 in
set_option maxRecDepth 20000 in
theorem run_main (b off len cap : Nat) (gv gh gq gn : Nat → Int) (w : World) (h0 : 0 < len) (hlen : len ≤ 65536) (hb : b < w.heap.size)
    (hsrc : ∀ i, i < len → w.cell? ⟨b, off + i * 4, none⟩ = some (.int .u8 (gv i)) ∧ w.cell? ⟨b, off + i * 4 + 1, none⟩ = some (.int .u8 (gh i)) ∧ w.cell? ⟨b, off + i * 4 + 2, none⟩ = some (.int .u32 (gq i)) ∧ w.cell? ⟨b, off + i * 4 + 3, none⟩ = some (.int .u32 (gn i)))
    (hwf : ∀ i, i < len → (Lit.int .u8 (gh i)).wf = true ∧ (Lit.int .u32 (gq i)).wf = true ∧ (Lit.int .u32 (gn i)).wf = true) :
    Calls Trym.prog 4 #[.slice (some ⟨b, off, none⟩) len cap] w fun er w' => er = .returned (.bool true) ∧ Below w.heap.size w w' := by
  have hmm := @run_makeMap Trym.prog
  have l1 : ¬ (65536 : Int) < len := by omega
  have HS : Hid (∀ i, i < len → w.cell? ⟨b, off + i * 4, none⟩ = some (.int .u8 (gv i)) ∧ w.cell? ⟨b, off + i * 4 + 1, none⟩ = some (.int .u8 (gh i)) ∧ w.cell? ⟨b, off + i * 4 + 2, none⟩ = some (.int .u32 (gq i)) ∧ w.cell? ⟨b, off + i * 4 + 3, none⟩ = some (.int .u32 (gn i))) := hsrc
  have HW : Hid (∀ i, i < len → (Lit.int .u8 (gh i)).wf = true ∧ (Lit.int .u32 (gq i)).wf = true ∧ (Lit.int .u32 (gn i)).wf = true) := hwf
  clear hsrc hwf
  go_enter Trym.func4, Trym.ntmps4
  go_wp2_with fail
  refine (bytesRun_yes _ len cap _ (by omega)).mono ?_
  rintro e w' ⟨rfl, hw'⟩
  have hw2 := hw'.symm
  clear hw'
  subst hw2
  go_wp2_with fail
  refine (copyGroups_any b off len cap gv gh gq gn w hlen hb HS.out).mono ?_
  rintro e w1 ⟨rfl, hrow, hbel⟩
  have R0 : Hid (RunAt gv gh gq gn w len w1.heap.size 0 0 ((w1.alloc (.cells #[.int .u64 0, .int .u64 0, .int .u64 0, .int .u64 0, .int .u64 0, .int .u64 0, .int .u64 0, .map none, .int .u32 0, .int .u8 0, .int .u32 0, .bool false] 60)).alloc (.map #[] 0))) := by
    refine ⟨.map [], .map [], .map none, 0, 0, 0, false, runInv_start gh gq gn, (ctr_made w1).alloc _, Or.inl ⟨rfl, rfl⟩, ?_, (hrow.alloc _).alloc _, (fun i e => by cases e), hrow.lt, (hbel.alloc hbel.size _).alloc (by have := hbel.size; simp; omega) _⟩
    have := ownM_made (w1.alloc (.cells #[.int .u64 0, .int .u64 0, .int .u64 0, .int .u64 0, .int .u64 0, .int .u64 0, .int .u64 0, .map none, .int .u32 0, .int .u8 0, .int .u32 0, .bool false] 60))
    simpa using this
  clear hrow hbel
  go_wp2_with fail
  go_loopw [5, 6] (fun x i wr => ∃ (k : Nat) (L : Int), k ≤ len ∧ i = .int .i64 k ∧ x = .int .u64 L ∧ RunAt gv gh gq gn w len w1.heap.size k L wr) (fun _ i _ => len - (intOf i).toNat)
  case atStart => exact ⟨0, 0, Nat.zero_le _, rfl, rfl, R0.out⟩
  case round =>
    clear R0
    obtain ⟨k, L, hk, rfl, rfl, D, DM, mv, nd, hw, q, hc, I, hctr, hl, hM, hrow, hmv, hB, hbel⟩ := hrel
    by_cases hlt : k < len
    · obtain ⟨wh, wq, wn⟩ := HW.out k hlt
      obtain ⟨h0', h1'⟩ := u8_bd wh
      obtain ⟨q0', q1'⟩ := u32_bd wq
      obtain ⟨n0', n1'⟩ := u32_bd wn
      have c0 : wr.cell? ⟨w.heap.size, k * 4, none⟩ = some (.int .u8 (gv k)) := by rw [hrow.cell (i := k * 4) (by omega), cellG0]
      have c1 : wr.cell? ⟨w.heap.size, k * 4 + 1, none⟩ = some (.int .u8 (gh k)) := by rw [hrow.cell (i := k * 4 + 1) (by omega), cellG1]
      have c2 : wr.cell? ⟨w.heap.size, k * 4 + 2, none⟩ = some (.int .u32 (gq k)) := by rw [hrow.cell (i := k * 4 + 2) (by omega), cellG2]
      have c3 : wr.cell? ⟨w.heap.size, k * 4 + 3, none⟩ = some (.int .u32 (gn k)) := by rw [hrow.cell (i := k * 4 + 3) (by omega), cellG3]
      have hsM : Maps.size DM < 4294967296 := by have := I.szM; omega
      have hsD : Maps.size D < 4294967296 := by have := I.sz; omega
      have hlook := ownM_look (ownM_alloc hM (.cells #[.int .u8 (gv k), .int .u8 (gh k), .int .u32 (gq k), .int .u32 (gn k)] 30)) wn wh
      obtain ⟨p0, p1⟩ := ownM_num hM wn wh
      obtain ⟨w2, hst, hM2, k2⟩ := ownM_store (ownM_alloc hM (.cells #[.int .u8 (gv k), .int .u8 (gh k), .int .u32 (gq k), .int .u32 (gn k)] 30)) hsM wn wh wq
      have zc := hctr.lt
      have zm := hM.lt
      have zr := hrow.lt
      have hB1 := hbel.size
      have kk : Kp wr w2 (fun i => i = w1.heap.size + 1) := ((Kp.refl wr _).alloc _).trans k2
      have g0 : w2.cell? ⟨wr.heap.size, 0, none⟩ = some (.int .u8 (gv k)) := k2.cell (by simp) (by simp; omega)
      have g1 : w2.cell? ⟨wr.heap.size, 1, none⟩ = some (.int .u8 (gh k)) := k2.cell (by simp) (by simp; omega)
      have g2 : w2.cell? ⟨wr.heap.size, 2, none⟩ = some (.int .u32 (gq k)) := k2.cell (by simp) (by simp; omega)
      have g3 : w2.cell? ⟨wr.heap.size, 3, none⟩ = some (.int .u32 (gn k)) := k2.cell (by simp) (by simp; omega)
      have zz : wr.heap.size < w2.heap.size := by have := k2.size; simp at this; omega
      have C2 : Ctr w2 w1.heap.size 0 0 0 0 0 L 0 mv nd hw q hc := kk.ctr hctr (by omega)
      have L2 : Lst w2 mv D := kk.lst hl (fun i e => by have := hmv i e; omega)
      have R2 := kk.row hrow (by omega)
      have B2 : Below w.heap.size w w2 := Kp.toBelow hbel kk (by omega) (fun i hi => by omega)
      have F : Hid (RunInv gh gq gn k L D DM nd hw q hc ∧ Ctr w2 w1.heap.size 0 0 0 0 0 L 0 mv nd hw q hc ∧ Lst w2 mv D ∧ OwnM w2 (w1.heap.size + 1) (DM.put (k64 (gn k) (gh k)) (.lit (.int .u32 (gq k)))) ∧ w2.rowIs w.heap.size 30 (len * 4) (cellG gv gh gq gn) ∧ (∀ i, mv = .map (some i) → w1.heap.size + 1 < i) ∧ Below w.heap.size w w2) :=
        ⟨I, C2, L2, hM2, R2, hmv, B2⟩
      clear I hctr hl hM hrow hmv hbel hM2 k2 kk C2 L2 R2 B2
      cases hhas : Maps.has DM (k64 (gn k) (gh k))
      · rw [hhas] at hlook
        have HH : Hid (Maps.has DM (k64 (gn k) (gh k)) = false) := hhas
        clear hhas
        generalize numAt DM (k64 (gn k) (gh k)) = pp at hlook p0 p1
        go_wp2_with fail
        refine (key_any (gn k) (gh k) _ n0' n1' h0' h1').mono ?_
        rintro e w3 ⟨rfl, rfl⟩
        go_wp2_with fail
        refine (header_any _ _ _ _ _).mono ?_
        rintro e w3 ⟨rfl, hb3⟩
        go_wp2_with fail
        obtain ⟨I, C2, L2, M2, R2, hmv, B2⟩ := F.out
        refine (zzSequence_any _ _ _ _ _ _ _ _ mv nd hw q hc D _ _ _ _ w3 (C2.below hb3 C2.lt) ((Kp.ofBelow hb3).lst L2 (fun i e => by have := L2.lt e; omega)) hsD wn wh wq I.wn I.wh I.wq).mono ?_
        rintro e w4 ⟨rfl, hP⟩
        obtain ⟨L', hR, hL'⟩ := run_round I C2 L2 M2 R2 hmv B2 hB hb3 (by omega) wn wh wq hP
        rw [if_neg (by rw [HH.out]; decide)] at hL'
        have FI : Hid (RunAt gv gh gq gn w len w1.heap.size (k + 1) L w4) := hL' ▸ hR
        clear I C2 L2 M2 R2 hmv B2 hP hR hL' hb3 F
        go_wp2
        go_roundw
        case rel => exact ⟨k + 1, L, by omega, by go_num, rfl, FI.out⟩
        case measure => simp [intOf]; omega
      · rw [hhas] at hlook
        have HH : Hid (Maps.has DM (k64 (gn k) (gh k)) = true) := hhas
        clear hhas
        obtain ⟨pp, hpp⟩ : ∃ pp, pp = numAt DM (k64 (gn k) (gh k)) := ⟨_, rfl⟩
        rw [← hpp] at hlook p0 p1
        have HP : Hid (pp = numAt DM (k64 (gn k) (gh k))) := hpp
        clear hpp
        go_wp2_with fail
        refine (key_any (gn k) (gh k) _ n0' n1' h0' h1').mono ?_
        rintro e w3 ⟨rfl, rfl⟩
        go_wp2_with fail
        refine (lostModel_any pp (gq k) _ p0 p1 q0' q1').mono ?_
        rintro e w3 ⟨rfl, rfl⟩
        go_wp2_with fail
        refine (header_any _ _ _ _ _).mono ?_
        rintro e w3 ⟨rfl, hb3⟩
        go_wp2_with fail
        obtain ⟨I, C2, L2, M2, R2, hmv, B2⟩ := F.out
        refine (zzSequence_any _ _ _ _ _ _ _ _ mv nd hw q hc D _ _ _ _ w3 (C2.below hb3 C2.lt) ((Kp.ofBelow hb3).lst L2 (fun i e => by have := L2.lt e; omega)) hsD wn wh wq I.wn I.wh I.wq).mono ?_
        rintro e w4 ⟨rfl, hP⟩
        obtain ⟨L', hR, hL'⟩ := run_round I C2 L2 M2 R2 hmv B2 hB hb3 (by omega) wn wh wq hP
        rw [if_pos HH.out, ← HP.out] at hL'
        have FI : Hid (RunAt gv gh gq gn w len w1.heap.size (k + 1) ((L + lostF pp (gq k)) % 18446744073709551616) w4) := hL' ▸ hR
        clear I C2 L2 M2 R2 hmv B2 hP hR hL' hb3 F
        go_wp2
        go_roundw
        case rel => exact ⟨k + 1, _, by omega, by go_num, rfl, FI.out⟩
        case measure => simp [intOf]; omega
    · have hkl : k = len := by omega
      subst hkl
      obtain ⟨wo, hwo⟩ : ∃ wo, wo = wr := ⟨wr, rfl⟩
      subst hwo
      have hz : ((k : Int) == 0) = false := by rw [beq_eq_false_iff_ne]; omega
      obtain ⟨hc1, e1, e2, e3⟩ := I.last h0
      subst hc1 e1 e2 e3
      have zc := hctr.lt
      have zm := hM.lt
      have zr := hrow.lt
      have hB1 := hbel.size
      have l0 := I.l0
      have l1' := I.l1
      go_wp2_with fail
      refine (zzStats_any _ _ _ _ _ _ _ _ _ _ _ _ _ _ hctr).mono ?_
      rintro e w2 ⟨rfl, hb2⟩
      go_wp2_with fail
      refine (statsAre_any 0 0 0 0 0 0 0 L L _ (by omega)).mono ?_
      rintro e w3 ⟨rfl, hb3⟩
      have hb3' : Below wo.heap.size wo w3 := hb2.trans (hb3.mono hb2.size)
      clear hb2 hb3
      go_wp2_with fail
      refine (zzCurrent_any _ _ _ _ _ _ _ _ _ _ _ _ _ _ (hctr.below hb3' zc)).mono ?_
      rintro e w4 ⟨rfl, hb4⟩
      have hb4' : Below wo.heap.size wo w4 := hb3'.trans (hb4.mono hb3'.size)
      clear hb4 hb3'
      obtain ⟨wh, wq, wn⟩ := HW.out (k - 1) (by omega)
      obtain ⟨h0', h1'⟩ := u8_bd wh
      obtain ⟨n0', n1'⟩ := u32_bd wn
      have R4 := (Kp.ofBelow hb4').row hrow (by omega)
      have d0 : w4.cell? ⟨w.heap.size, (k - 1) * 4, none⟩ = some (.int .u8 (gv (k - 1))) := by rw [R4.cell (i := (k - 1) * 4) (by omega), cellG0]
      have d1 : w4.cell? ⟨w.heap.size, (k - 1) * 4 + 1, none⟩ = some (.int .u8 (gh (k - 1))) := by rw [R4.cell (i := (k - 1) * 4 + 1) (by omega), cellG1]
      have d2 : w4.cell? ⟨w.heap.size, (k - 1) * 4 + 2, none⟩ = some (.int .u32 (gq (k - 1))) := by rw [R4.cell (i := (k - 1) * 4 + 2) (by omega), cellG2]
      have d3 : w4.cell? ⟨w.heap.size, (k - 1) * 4 + 3, none⟩ = some (.int .u32 (gn (k - 1))) := by rw [R4.cell (i := (k - 1) * 4 + 3) (by omega), cellG3]
      clear R4
      have HI : Hid (RunInv gh gq gn k L D DM (gn (k - 1)) (gh (k - 1)) (gq (k - 1)) true ∧ Ctr wo w1.heap.size 0 0 0 0 0 L 0 mv (gn (k - 1)) (gh (k - 1)) (gq (k - 1)) true ∧ Lst wo mv D ∧ OwnM wo (w1.heap.size + 1) DM ∧ wo.rowIs w.heap.size 30 (k * 4) (cellG gv gh gq gn) ∧ Below w.heap.size w wo) := ⟨I, hctr, hl, hM, hrow, hbel⟩
      have HB : Hid (Below wo.heap.size wo w4) := hb4'
      have z4 := hb4'.size
      clear I hctr hl hM hrow hbel hb4' hmv
      go_wp2_with fail
      refine (key_any (gn (k - 1)) (gh (k - 1)) _ n0' n1' h0' h1').mono ?_
      rintro e w5 ⟨rfl, rfl⟩
      go_wp2_with fail
      go_loopw [17] (fun i wx => ∃ j : Nat, j ≤ k ∧ i = .int .i64 j ∧ Below wo.heap.size wo wx) (fun i _ => k - (intOf i).toNat)
      case atStart => exact ⟨0, Nat.zero_le _, rfl, HB.out.alloc z4 _⟩
      case round =>
        obtain ⟨j, hj, rfl, hbx⟩ := hrel
        clear d0 d1 d2 d3 HB z4
        by_cases hjk : j < k
        · obtain ⟨vh, vq, vn⟩ := HW.out j hjk
          obtain ⟨a0, a1⟩ := u8_bd vh
          obtain ⟨b0, b1⟩ := u32_bd vn
          obtain ⟨I, hctr, hl, hM, hrow, hbel⟩ := HI.out
          have kx := Kp.ofBelow hbx
          have Rx := kx.row hrow (by omega)
          have c0 : wr.cell? ⟨w.heap.size, j * 4, none⟩ = some (.int .u8 (gv j)) := by rw [Rx.cell (i := j * 4) (by omega), cellG0]
          have c1 : wr.cell? ⟨w.heap.size, j * 4 + 1, none⟩ = some (.int .u8 (gh j)) := by rw [Rx.cell (i := j * 4 + 1) (by omega), cellG1]
          have c2 : wr.cell? ⟨w.heap.size, j * 4 + 2, none⟩ = some (.int .u32 (gq j)) := by rw [Rx.cell (i := j * 4 + 2) (by omega), cellG2]
          have c3 : wr.cell? ⟨w.heap.size, j * 4 + 3, none⟩ = some (.int .u32 (gn j)) := by rw [Rx.cell (i := j * 4 + 3) (by omega), cellG3]
          have HX : Hid (Below wo.heap.size wo (wr.alloc (.cells #[.int .u8 (gv j), .int .u8 (gh j), .int .u32 (gq j), .int .u32 (gn j)] 30))) := hbx.alloc hbx.size _
          have Mx := ownM_alloc (kx.ownM hM (by omega)) (.cells #[.int .u8 (gv j), .int .u8 (gh j), .int .u32 (gq j), .int .u32 (gn j)] 30)
          have hget := ownM_get Mx vn vh
          have Lx := (kx.lst hl (fun i e => by have := hl.lt e; omega)).alloc (.cells #[.int .u8 (gv j), .int .u8 (gh j), .int .u32 (gq j), .int .u32 (gn j)] 30)
          have Cx := (hctr.below hbx zc).alloc (.cells #[.int .u8 (gv j), .int .u8 (gh j), .int .u32 (gq j), .int .u32 (gn j)] 30)
          by_cases heq : gn j * 256 + gh j = gn (k - 1) * 256 + gh (k - 1)
          · have hbq : (gn j * 256 + gh j == gn (k - 1) * 256 + gh (k - 1)) = true := by simpa using heq
            clear I hctr hl hM hrow hbel kx Rx Mx Lx Cx hbx hget heq
            go_wp2_with fail
            refine (key_any (gn j) (gh j) _ b0 b1 a0 a1).mono ?_
            rintro e w6 ⟨rfl, rfl⟩
            go_wp2
            go_roundw
            case rel => exact ⟨j + 1, by omega, by go_num, HX.out⟩
            case measure => simp [intOf]; omega
          · have hbq : (gn j * 256 + gh j == gn (k - 1) * 256 + gh (k - 1)) = false := by simpa using heq
            obtain ⟨o1, o2⟩ := I.oth (gn j) (gh j) vn vh (fun ⟨_, x, y⟩ => heq (by rw [x, y]))
            have o3 := I.all j hjk
            have hcall : Calls Trym.prog 14 #[.pointer (some ⟨w1.heap.size, 0, none⟩), .int .u32 (gn j), .int .u8 (gh j)] (wr.alloc (.cells #[.int .u8 (gv j), .int .u8 (gh j), .int .u32 (gq j), .int .u32 (gn j)] 30)) fun e w' => e = .returned (.tuple #[.int .u32 (numAt DM (k64 (gn j) (gh j))), .bool true]) ∧ w' = wr.alloc (.cells #[.int .u8 (gv j), .int .u8 (gh j), .int .u32 (gq j), .int .u32 (gn j)] 30) := by
              refine (zzLast_any _ _ _ _ (gn j) (gh j) _ Cx.last Lx.last vn vh).mono ?_
              rintro e w' ⟨rfl, rfl⟩
              exact ⟨by rw [o1, o2, o3], rfl⟩
            have HC := hide hcall
            generalize numAt DM (k64 (gn j) (gh j)) = pp at hget HC
            clear I hctr hl hM hrow hbel kx Rx Mx Lx Cx hbx hcall o1 o2 o3 heq
            go_wp2_with fail
            refine (key_any (gn j) (gh j) _ b0 b1 a0 a1).mono ?_
            rintro e w6 ⟨rfl, rfl⟩
            go_wp2_with fail
            refine HC.out.mono ?_
            rintro e w6 ⟨rfl, rfl⟩
            go_wp2
            go_roundw
            case rel => exact ⟨j + 1, by omega, by go_num, HX.out⟩
            case measure => simp [intOf]; omega
        · have hjk' : j = k := by omega
          subst hjk'
          go_wp2
          go_ret
          exact ⟨rfl, HI.out.2.2.2.2.2.trans (hbx.mono (by omega))⟩

end Go.Proofs.Qxb6605559aMods
