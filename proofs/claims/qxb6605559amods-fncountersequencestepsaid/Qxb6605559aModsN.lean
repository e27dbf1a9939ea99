import Derived.Test.Qxb6605559aModsM
import Derived.Deep.RegionHeld3
namespace Go.Proofs.Qxb6605559aMods
open Go.RowKit Go.Maps
set_option linter.unusedVariables false

theorem toStats_any (r t m u p l e : Int) (w : World) :
    Calls Trym.prog 25 #[.agg #[.int .u64 r, .int .u64 t, .int .u64 m, .int .u64 u, .int .u64 p, .int .u64 l, .int .u64 e]] w fun er w' =>
      er = .returned (.agg #[.int .u64 r, .int .u64 t, .int .u64 m, .int .u64 u, .int .u64 p, .int .u64 l, .int .u64 e]) ∧
      w' = (w.alloc (.cells #[.int .u64 r, .int .u64 t, .int .u64 m, .int .u64 u, .int .u64 p, .int .u64 l, .int .u64 e] 25)).alloc (.cells #[.int .u64 r, .int .u64 t, .int .u64 m, .int .u64 u, .int .u64 p, .int .u64 l, .int .u64 e] 51) := by
  go_enter Trym.func25, Trym.ntmps25
  go_wp2
  exact bodyPost_ret (v := .agg #[.int .u64 r, .int .u64 t, .int .u64 m, .int .u64 u, .int .u64 p, .int .u64 l, .int .u64 e]) (by simp [results, Trym.results25, go_sem]) rfl ⟨rfl, rfl⟩

theorem newCounter_any (r t m u p l e cn ch cs : Int) (hc : Bool) (w : World) :
    Calls Trym.prog 24 #[.agg #[.int .u64 r, .int .u64 t, .int .u64 m, .int .u64 u, .int .u64 p, .int .u64 l, .int .u64 e], .int .u32 cn, .int .u8 ch, .int .u32 cs, .bool hc] w fun er w' =>
      er = .returned (.pointer (some ⟨w.heap.size + 2, 0, none⟩)) ∧
      w' = ((w.alloc (.cells #[.int .u64 r, .int .u64 t, .int .u64 m, .int .u64 u, .int .u64 p, .int .u64 l, .int .u64 e] 51)).alloc (.map #[] 0)).alloc (.cells #[.int .u64 r, .int .u64 t, .int .u64 m, .int .u64 u, .int .u64 p, .int .u64 l, .int .u64 e, .map (some (w.heap.size + 1)), .int .u32 cn, .int .u8 ch, .int .u32 cs, .bool hc] 60) := by
  have hmm := @run_makeMap Trym.prog
  go_enter Trym.func24, Trym.ntmps24
  go_wp2
  go_ret
  exact ⟨rfl, rfl⟩

theorem nilLast_any (b : Nat) (r t m u p l e : Int) (mv : Value) (nd hw q : Int) (hc : Bool) (w : World) (hctr : Ctr w b r t m u p l e mv nd hw q hc) :
    Calls Trym.prog 26 #[.pointer (some ⟨b, 0, none⟩)] w fun er w' => er = .returned (.tuple #[]) ∧ Ctr w' b r t m u p l e (.map none) nd hw q hc ∧ Kp w w' (fun i => i = b) := by
  have c7 := hctr.last
  have fz := hctr.frozen
  have hb := hctr.lt
  have HC := hide hctr
  clear hctr
  go_enter Trym.func26, Trym.ntmps26
  go_wp2
  go_end0
  exact ⟨rfl, HC.out.setLast _, (Kp.refl w (fun i => i = b)).setCell (fun _ => rfl) _⟩

theorem put_any (b bl : Nat) (r t m u p l e : Int) (nd hw q : Int) (hc : Bool) (D : DataW Unit) (n h s : Int) (w : World) (hctr : Ctr w b r t m u p l e (.map (some bl)) nd hw q hc) (ho : Own w bl D) (hs : Maps.size D < 4294967296)
    (hn : (Lit.int .u32 n).wf = true) (hh : (Lit.int .u8 h).wf = true) (hq : (Lit.int .u32 s).wf = true) :
    Calls Trym.prog 27 #[.pointer (some ⟨b, 0, none⟩), .int .u32 n, .int .u8 h, .int .u32 s] w fun er w' => er = .returned (.tuple #[]) ∧ Own w' bl (D.put (sk n h) (.lit (.int .u32 s))) ∧ Kp w w' (fun i => i = bl) := by
  have c7 := hctr.last
  obtain ⟨w1, hrun, h1, h2⟩ := own_store ho hs hn hh hq
  have F := hide (And.intro h1 h2)
  clear hctr ho h1 h2
  go_enter Trym.func27, Trym.ntmps27
  go_wp2
  go_end0
  exact ⟨rfl, F.out⟩

theorem zzRemember_any (b : Nat) (r t m u p l e : Int) (mv : Value) (nd hw q : Int) (hc : Bool) (D : DataW Unit) (n h sq : Int) (w : World) (hctr : Ctr w b r t m u p l e mv nd hw q hc) (hl : Lst w mv D) (hs1 : Maps.size D < 4294967296)
    (hn : (Lit.int .u32 n).wf = true) (hh : (Lit.int .u8 h).wf = true) (hq : (Lit.int .u32 sq).wf = true) :
    Calls Trym.prog 22 #[.pointer (some ⟨b, 0, none⟩), .int .u32 n, .int .u8 h, .int .u32 sq] w fun er w' => er = .returned (.tuple #[]) ∧
      ∃ bl D', Remembered D n h sq D' ∧ Ctr w' b r t m u p l e (.map (some bl)) nd hw q hc ∧ Own w' bl D' ∧ (mv = .map (some bl) ∨ w.heap.size ≤ bl) ∧ Kp w w' (fun i => i = b ∨ mv = .map (some i)) := by
  have HC := hide hctr
  have HL := hide hl
  clear hctr hl
  go_enter Trym.func22, Trym.ntmps22
  go_wp2_with fail
  refine (remember_any b r t m u p l e mv nd hw q hc D n h sq _ HC.out HL.out hs1 hn hh hq).mono ?_
  rintro er w' ⟨rfl, h1⟩
  have F := hide h1
  clear h1
  go_wp2
  go_end0
  exact ⟨rfl, F.out⟩

theorem lastIsNil_any (b bl : Nat) (r t m u p l e : Int) (nd hw q : Int) (hc : Bool) (w : World) (hctr : Ctr w b r t m u p l e (.map (some bl)) nd hw q hc) :
    Calls Trym.prog 23 #[.pointer (some ⟨b, 0, none⟩)] w fun er w' => er = .returned (.bool false) ∧ w' = w := by
  have c7 := hctr.last
  have hnil := fun W : World => run_eql_map_nil (P := Trym.prog) W 56 58 26 (some bl) Trym.underlying56
  clear hctr
  go_enter Trym.func23, Trym.ntmps23
  go_wp2
  go_ret
  exact ⟨rfl, rfl⟩

end Go.Proofs.Qxb6605559aMods
