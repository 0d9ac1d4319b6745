/-
  A gauge writes its line: its name, its whole number.
-/
import Derived.Test.YtlimibjmccbdlaaGreatDoorGauge
namespace Go.Proofs.YtlimibjmccbdlaaGreatDoor
open Go.RowKit Go.Sort

theorem order_self (n : Int) (hb : n.natAbs < 2 ^ 52) : Ieee.double.order (fw n) (fw n) = some .eq := by
  obtain ⟨k, _, h⟩ := read_fw n hb
  unfold Ieee.Format.order
  rw [h]
  unfold Ieee.Datum.order
  simp only [Int.min_self]
  simp [compare, compareOfLessAndEq]
theorem eq_self (n : Int) (hb : n.natAbs < 2 ^ 52) : (FloatKind.f64.format.order (fw n) (fw n) == some .eq) = true := by
  rw [show FloatKind.f64.format = Ieee.double from rfl, order_self n hb]
  rfl
theorem float_int (n : Int) (h0 : n ≠ 0) (hb : n.natAbs < 2 ^ 52) (w : World) : (convert 39 2 (.float .f64 (fw n))).run Tryz.prog w = .ok (.int .i64 n) w := by
  refine run_convert_float_int (P := Tryz.prog) w 39 2 .f64 .i64 (fw n) n (by rw [Tryz.underlying39]; rfl) Tryz.underlying2 ?_
  unfold floatToIntVal
  rw [show FloatKind.f64.decode (fw n) = Ieee.double.read (fw n) from rfl, toInt_fw n h0 hb]
  simp only
  rw [if_pos]
  simp [IntKind.min, IntKind.max, IntKind.bits, IntKind.signed]
  omega
theorem int_float (n : Int) (w : World) : (convert 2 39 (.int .i64 n)).run Tryz.prog w = .ok (.float .f64 (fw n)) w :=
  run_convert_int_float (P := Tryz.prog) w 2 39 .i64 .f64 n (by rw [Tryz.underlying2]; rfl) Tryz.underlying39

set_option maxRecDepth 100000 in
set_option maxHeartbeats 1000000 in
theorem gaugeMarshal (B bb gb : Nat) (l : List UInt8) (name : ByteArray) (v : Nat) (w : World) (hB : B ≤ w.heap.size) (hbuf : BufIs w B bb l) (hg : GaugeIs w gb v) (h0 : v ≠ 0) (hv : v < 2 ^ 51) (hp : Lib.TabIs Tryz.prog w "internal/strconv.uint64pow10" .u64 Lib.pow10Tab)
    (hname : name.size ≤ 1000) (hl : l.length + (lineOf name (Lib.decDigits v)).length ≤ 1000000) :
    Calls Tryz.prog 79 #[.pointer (some ⟨gb, 0, none⟩), .string name, .iface 62 (.pointer (some ⟨bb, 0, none⟩))] w
      fun e w' => e = .returned (.tuple #[]) ∧ BufIs w' B bb (l ++ lineOf name (Lib.decDigits v)) ∧ But B bb w w' := by
  have HBUF := Lib.hid hbuf
  have HG := Lib.hid (gaugeGet gb v w hg)
  have HF : Hid (Calls Tryz.prog 82 #[.int .i64 (v : Int), .int .i64 10] w fun e w' => e = .returned (.string ⟨(Lib.decDigits v).toArray⟩) ∧ Below w.heap.size w w') := Lib.hid (by
    refine (Tryz.strconv_FormatInt_10 v (by omega) (by omega) w hp).mono ?_
    rintro e w' ⟨rfl, k, os, rfl⟩
    refine ⟨?_, below_grow w k os⟩
    have : Lib.itoa (v : Int) = Lib.decDigits v := by
      unfold Lib.itoa
      rw [if_neg (by omega)]
      rfl
    rw [this])
  have HL := Lib.hid hl
  have hdig : (Lib.decDigits v).length ≤ 20 := digits_le (w := w) (.inr ⟨by omega, hp⟩)
  have hfi := float_int v (by omega) (by omega)
  have hif := int_float v
  have heq := eq_self v (by omega)
  clear hbuf hg hl hp
  go_enter Tryz.func79, Tryz.ntmps79
  go_wp2_with fail
  refine HG.out.mono ?_
  rintro e w' ⟨rfl, rfl⟩
  go_wp2_with fail
  refine HF.out.mono ?_
  rintro e w1 ⟨rfl, hb1⟩
  have H1 := Lib.hid hb1
  clear hb1
  go_wp2_with fail
  refine (writeString_any B bb l _ w1 (Nat.le_trans hB H1.out.size) (HBUF.out.kept H1.out) (by rw [line_size]; exact HL.out)).mono ?_
  rintro e w2 ⟨rfl, hb2, hbel⟩
  have HB2 := Lib.hid hb2
  have HE := Lib.hid hbel
  clear hb2 hbel
  go_wp2
  go_end0
  refine ⟨rfl, ?_, (But.of_below H1.out hB).trans HE.out⟩
  have h := HB2.out
  rw [line_data] at h
  exact h

theorem gaugeKind : Kind 36 80 79 where
  tMethod := fun n a w => by kernel_rfl
  mMethod := fun n a w => by kernel_rfl
  tEnter := fun args w => by kernel_rfl
  mEnter := fun args w => by kernel_rfl
  type := fun b w => (gaugeType b w).mono fun _ _ h => ⟨⟨_, h.1⟩, h.2⟩
end Go.Proofs.YtlimibjmccbdlaaGreatDoor
