import Derived.Test.Qxb6605559aModsA
import Derived.Maps.RangeWalk
import Derived.DeepKeys4
import Derived.KernelRfl
namespace Go.Proofs.Qxb6605559aMods
open Go.RowKit Go.Maps
set_option linter.unusedVariables false

theorem laidOut : laidOutB Trym.prog = true := by kernel_rfl
theorem row58 : (58 : TypeId) < Trym.prog.types.size := of_decide_eq_true (by kernel_rfl)
theorem cells58 : Trym.prog.cellsOf 58 = 2 := by kernel_rfl
theorem cells26 : Trym.prog.cellsOf 26 = 1 := by kernel_rfl
theorem cells5 : Trym.prog.cellsOf 5 = 1 := by kernel_rfl
theorem wide58 : (match Trym.prog.underlying 58 with | some (.array _ _) | some (.struct _) => true | _ => false) = true := by rw [Trym.underlying58]
theorem law58 : Keyed Trym.prog 58 := Keyed.of_law (deep_law_laid laidOut (m := 3) (by omega) row58 (by kernel_rfl) wide58)
theorem law23 : Keyed Trym.prog 23 := int_keyed Trym.underlying23
theorem zero26 (w : World) : (zeroValue 26).run Trym.prog w = .ok (.int .u32 0) w := by kernel_rfl
theorem typesSize : Trym.prog.types.size = 94 := by kernel_rfl
theorem keyType58 : Trym.prog.keyType 58 = true := by kernel_rfl

/-- What the key 'source{n, h}' reads as. -/
def sk (n h : Int) : Lit := .string (keyBytes [.int .u32 n, .int .u8 h])

theorem sk_key {n h : Int} (hn : (Lit.int .u32 n).wf = true) (hh : (Lit.int .u8 h).wf = true) : keyOf Trym.prog 58 (.agg #[.int .u32 n, .int .u8 h]) = some (sk n h) := by
  obtain ⟨m, hm⟩ : ∃ m, Trym.prog.types.size = m + 1 := ⟨93, typesSize⟩
  unfold keyOf
  simp only [Trym.underlying58]
  rw [if_pos (by simp [keyType58, Value.formed, Trym.underlying58, cells58]), hm]
  unfold Program.keyLits
  simp only [Trym.underlying58, Value.cells]
  rw [if_pos (by simp [cells58])]
  simp [Program.keyLits, Trym.underlying26, Trym.underlying5, cells26, cells5, hn, hh, sk]

theorem sk_inj {n h n' h' : Int} (hn : (Lit.int .u32 n).wf = true) (hh : (Lit.int .u8 h).wf = true) (hn' : (Lit.int .u32 n').wf = true) (hh' : (Lit.int .u8 h').wf = true) (e : sk n h = sk n' h') : n = n' ∧ h = h' := by
  have := law58.inj (sk_key hn hh) (e ▸ sk_key hn' hh')
  simpa using this

/-- The number at a key (0 where there is none). -/
def numAt (D : DataW Unit) (k : Lit) : Int := match D.atKey k (.lit (.int .u32 0)) with | .lit (.int _ n) => n | _ => 0
theorem numAt_of {D : DataW Unit} {k : Lit} {c : Int} (h : D.atKey k (.lit (.int .u32 0)) = .lit (.int .u32 c)) : numAt D k = c := by unfold numAt; rw [h]

/-- The value mv is a map of sources that reads as D (nil reads as empty). -/
def Last (w : World) (mv : Value) (n : Nat) (D : DataW Unit) : Prop :=
  (mv = .map none ∧ D = .map []) ∨ ∃ bl, mv = .map (some bl) ∧ w.ownsMap Trym.prog 58 (plainElem Trym.prog 26) bl n D

theorem numAt_empty (k : Lit) : numAt (.map []) k = 0 := rfl
theorem has_empty (k : Lit) : Maps.has (.map [] : DataW Unit) k = false := rfl

theorem zzLast_any (b : Nat) (mv : Value) (k : Nat) (D : DataW Unit) (n h : Int) (w : World) (hc : w.cell? ⟨b, 7, none⟩ = some mv) (hl : Last w mv k D) (hn : (Lit.int .u32 n).wf = true) (hh : (Lit.int .u8 h).wf = true) :
    Calls Trym.prog 14 #[.pointer (some ⟨b, 0, none⟩), .int .u32 n, .int .u8 h] w fun e w' => e = .returned (.tuple #[.int .u32 (numAt D (sk n h)), .bool (Maps.has D (sk n h))]) ∧ w' = w := by
  have hkey := sk_key hn hh
  rcases hl with ⟨rfl, rfl⟩ | ⟨bl, rfl, hown⟩
  · have hrun := look_nil (w := w) true law58 Trym.underlying56 (zero26 _) hkey
    clear hkey
    go_enter Trym.func14, Trym.ntmps14
    go_wp2
    go_ret2
    exact ⟨rfl, rfl⟩
  · go_enter Trym.func14, Trym.ntmps14
    go_wp2_with (first
      | (at_lookup; refine wpList_lookup_own_ok_int _ rfl _ _ 56 rfl 58 26 .u32 law58 Trym.underlying56 Trym.underlying26 (zero26 _) bl k D rfl hown _ _ rfl hkey ?_; intro c hat hwc)
      | go_in)
    go_ret2
    exact ⟨by rw [numAt_of hat]; rfl, rfl⟩

theorem zzLastLen_any (b : Nat) (mv : Value) (k : Nat) (D : DataW Unit) (w : World) (hc : w.cell? ⟨b, 7, none⟩ = some mv) (hl : Last w mv k D) :
    Calls Trym.prog 13 #[.pointer (some ⟨b, 0, none⟩)] w fun e w' => e = .returned (.int .i64 (Maps.size D)) ∧ w' = w := by
  rcases hl with ⟨rfl, rfl⟩ | ⟨bl, rfl, hown⟩
  · have hrun := fun ty => len_nil (w := w) Trym.underlying56 ty
    go_enter Trym.func13, Trym.ntmps13
    go_wp2
    go_ret
    exact ⟨rfl, rfl⟩
  · go_enter Trym.func13, Trym.ntmps13
    go_wp2_with (first
      | (at_len; refine wpList_len_own _ rfl _ 56 rfl 58 26 Trym.underlying56 _ bl k D rfl hown ?_)
      | go_in)
    go_ret
    exact ⟨rfl, rfl⟩

end Go.Proofs.Qxb6605559aMods
