/-
  A gauge's methods at whole numbers.
-/
import Derived.Test.YtlimibjmccbdlaaGreatDoorFloat
import Derived.Test.YtlimibjmccbdlaaGreatDoorPage
namespace Go.Proofs.YtlimibjmccbdlaaGreatDoor
open Go.RowKit

theorem bits_run (b : Nat) (w : World) : (Extern.MathFloatBits.float64bits #[.float .f64 b]).run Tryz.prog w = .ok (.int .u64 b) w := rfl
theorem from_run (b : Nat) (w : World) : (Extern.MathFloatBits.float64frombits #[.int .u64 b]).run Tryz.prog w = .ok (.float .f64 b) w := rfl
set_option maxRecDepth 100000 in
theorem floatBitsOf (b : Nat) (w : World) :
    Calls Tryz.prog 21 #[.float .f64 b] w fun e w' => e = .returned (.int .u64 b) ∧ w = w' := by
  go_enter Tryz.func21, Tryz.ntmps21
  go_wp2
  rw [run_callFunc_extern Tryz.func32 (by kernel_rfl) (by kernel_rfl) (by kernel_rfl) (e := Extern.MathFloatBits.float64bits) (by kernel_rfl), bits_run]
  simp only [Result.andThen]
  rw [Oper.upon_value]
  go_wp2
  go_ret
  exact ⟨rfl, rfl⟩
set_option maxRecDepth 100000 in
theorem floatFrom (b : Nat) (w : World) :
    Calls Tryz.prog 22 #[.int .u64 b] w fun e w' => e = .returned (.float .f64 b) ∧ w = w' := by
  go_enter Tryz.func22, Tryz.ntmps22
  go_wp2
  rw [run_callFunc_extern Tryz.func33 (by kernel_rfl) (by kernel_rfl) (by kernel_rfl) (e := Extern.MathFloatBits.float64frombits) (by kernel_rfl), from_run]
  simp only [Result.andThen]
  rw [Oper.upon_value]
  go_wp2
  go_ret
  exact ⟨rfl, rfl⟩

/-- A gauge that holds a whole number, without a callback. -/
def GaugeIs (w : World) (gb : Nat) (n : Int) : Prop := Box w gb 50 #[.int .u64 (fw n), .nilFunc]
theorem nilFunc_same (w : World) : (binOp .neq 48 .nilFunc .nilFunc).run Tryz.prog w = .ok (.bool false) w := by
  first
    | kernel_rfl
    | simp [binOp, Op.equalIn, run_underlying Tryz.underlying48]
theorem float_word (n : Int) : floatOfInt .f64 n = fw n := rfl

set_option maxRecDepth 100000 in
theorem gaugeSet (gb : Nat) (b : Nat) (m : Int) (w : World) (h : Box w gb 50 #[.int .u64 b, .nilFunc]) :
    Calls Tryz.prog 12 #[.pointer (some ⟨gb, 0, none⟩), .float .f64 (fw m)] w fun e w' => e = .returned (.tuple #[]) ∧ w' = w.setCell ⟨gb, 0, none⟩ (.int .u64 (fw m)) := by
  have c0 := h.cell 0
  have c1 := h.cell 1
  have f0 := h.free 0
  simp at c0 c1
  clear h
  have hnf := nilFunc_same
  go_enter Tryz.func12, Tryz.ntmps12
  go_wp2_with fail
  refine (floatBitsOf _ _).mono ?_
  rintro e w' ⟨rfl, rfl⟩
  go_wp2
  go_end0
  exact ⟨rfl, rfl⟩

set_option maxRecDepth 100000 in
theorem gaugeAdd (gb : Nat) (n m : Int) (w : World) (h : GaugeIs w gb n) (hn : n.natAbs < 2 ^ 51) (hm : m.natAbs < 2 ^ 51) (hs : n + m ≠ 0) :
    Calls Tryz.prog 13 #[.pointer (some ⟨gb, 0, none⟩), .float .f64 (fw m)] w fun e w' => e = .returned (.tuple #[]) ∧ w' = w.setCell ⟨gb, 0, none⟩ (.int .u64 (fw (n + m))) := by
  have h' : Box w gb 50 #[.int .u64 (fw n), .nilFunc] := h
  have c0 := h'.cell 0
  have c1 := h'.cell 1
  have f0 := h'.free 0
  simp at c0 c1
  have hadd := fun W : World => run_float_arith (P := Tryz.prog) W .add 39 .f64 (fw n) (fw m) (fw (n + m)) (add_fw n m hn hm hs)
  clear h h' hn hm hs
  have hnf := nilFunc_same
  go_enter Tryz.func13, Tryz.ntmps13
  go_wp2_with (first
    | (go_at_call 22; refine (floatFrom _ _).mono ?_; rintro e w' ⟨rfl, rfl⟩)
    | (go_at_call 21; refine (floatBitsOf _ _).mono ?_; rintro e w' ⟨rfl, rfl⟩))
  go_end0
  exact ⟨rfl, rfl⟩
theorem GaugeIs.stored {w : World} {gb : Nat} {n : Int} (h : GaugeIs w gb n) (m : Int) : GaugeIs (w.setCell ⟨gb, 0, none⟩ (.int .u64 (fw m))) gb m := by
  have := Box.stored h 0 (.int .u64 (fw m))
  simpa [GaugeIs] using this

theorem one_word : fw 1 = 4607182418800017408 := by decide +kernel
theorem minus_word : fw (-1) = 13830554455654793216 := by decide +kernel

set_option maxRecDepth 100000 in
theorem gaugeGet (gb : Nat) (n : Int) (w : World) (h : GaugeIs w gb n) :
    Calls Tryz.prog 81 #[.pointer (some ⟨gb, 0, none⟩)] w fun e w' => e = .returned (.float .f64 (fw n)) ∧ w = w' := by
  have h' : Box w gb 50 #[.int .u64 (fw n), .nilFunc] := h
  have c0 := h'.cell 0
  have c1 := h'.cell 1
  simp at c0 c1
  clear h h'
  have hnf := nilFunc_same
  go_enter Tryz.func81, Tryz.ntmps81
  go_wp2_with (go_at_call 22; refine (floatFrom _ _).mono ?_; rintro e w' ⟨rfl, rfl⟩)
  go_ret
  exact ⟨rfl, rfl⟩
theorem gaugeType (b : Nat) (w : World) :
    Calls Tryz.prog 80 #[.pointer (some ⟨b, 0, none⟩)] w fun e w' => e = .returned (.string ⟨#[103, 97, 117, 103, 101]⟩) ∧ w = w' := by
  go_enter Tryz.func80, Tryz.ntmps80
  go_wp2
  go_ret
  exact ⟨rfl, rfl⟩

set_option maxRecDepth 100000 in
theorem gaugeInc (gb : Nat) (n : Int) (w : World) (h : GaugeIs w gb n) (hn : n.natAbs < 2 ^ 51) (hs : n + 1 ≠ 0) :
    Calls Tryz.prog 14 #[.pointer (some ⟨gb, 0, none⟩)] w fun e w' => e = .returned (.tuple #[]) ∧ w' = w.setCell ⟨gb, 0, none⟩ (.int .u64 (fw (n + 1))) := by
  have HA := Lib.hid (gaugeAdd gb n 1 w h hn (by decide) hs)
  rw [one_word] at HA
  clear h
  go_enter Tryz.func14, Tryz.ntmps14
  go_wp2_with fail
  refine HA.out.mono ?_
  rintro e w' ⟨rfl, hw⟩
  have HW := Lib.hid hw
  clear hw
  go_wp2
  go_end0
  exact ⟨rfl, HW.out⟩
set_option maxRecDepth 100000 in
theorem gaugeDec (gb : Nat) (n : Int) (w : World) (h : GaugeIs w gb n) (hn : n.natAbs < 2 ^ 51) (hs : n + -1 ≠ 0) :
    Calls Tryz.prog 15 #[.pointer (some ⟨gb, 0, none⟩)] w fun e w' => e = .returned (.tuple #[]) ∧ w' = w.setCell ⟨gb, 0, none⟩ (.int .u64 (fw (n + -1))) := by
  have HA := Lib.hid (gaugeAdd gb n (-1) w h hn (by decide) hs)
  rw [minus_word] at HA
  clear h
  go_enter Tryz.func15, Tryz.ntmps15
  go_wp2_with fail
  refine HA.out.mono ?_
  rintro e w' ⟨rfl, hw⟩
  have HW := Lib.hid hw
  clear hw
  go_wp2
  go_end0
  exact ⟨rfl, HW.out⟩
end Go.Proofs.YtlimibjmccbdlaaGreatDoor
