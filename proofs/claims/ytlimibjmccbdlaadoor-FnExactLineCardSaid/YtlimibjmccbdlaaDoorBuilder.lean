/-
  strings.Builder written through io.WriteString: copyCheck, WriteString, io.WriteString at a builder.
-/
import Derived.Test.YtlimibjmccbdlaaDoorName
import Derived.Lib.Builder
import Derived.Lib.AppendStr
import Derived.Lib.UnsafeStr
import Derived.Lib.VarintMem
namespace Go.Proofs.YtlimibjmccbdlaaDoor
open Go.RowKit

theorem sizeBuilder : (Tryd.prog.info? 43).map (·.size) = some 2 := by kernel_rfl

set_option maxHeartbeats 1000000 in
set_option maxRecDepth 100000 in
theorem copyCheck_used (b : Nat) (w : World) (h0 : w.cell? ⟨b, 0, none⟩ = some (.pointer (some ⟨b, 0, none⟩))) :
    Calls Tryd.prog 119 #[.pointer (some ⟨b, 0, none⟩)] w fun e w' => e = .returned (.tuple #[]) ∧ w' = w := by
  obtain ⟨j, hj, _⟩ := Option.map_eq_some_iff.1 sizeBuilder
  go_enter Tryd.func119, Tryd.ntmps119
  go_wp2
  rw [Lib.run_neq_ptr_same w _ Tryd.underlying41 hj]
  go_wp2
  go_end0
  exact ⟨rfl, rfl⟩

set_option maxHeartbeats 1000000 in
set_option maxRecDepth 100000 in
theorem copyCheck_fresh (b : Nat) (w : World) (h0 : w.cell? ⟨b, 0, none⟩ = some (.pointer none)) (hsh : w.shape? b = some (43, 2)) (hfz : w.frozen? ⟨b, 0, none⟩ = false) :
    Calls Tryd.prog 119 #[.pointer (some ⟨b, 0, none⟩)] w fun e w' => e = .returned (.tuple #[]) ∧ w' = w.setCell ⟨b, 0, none⟩ (.pointer (some ⟨b, 0, none⟩)) := by
  obtain ⟨j, hj, hjs⟩ := Option.map_eq_some_iff.1 sizeBuilder
  go_enter Tryd.func119, Tryd.ntmps119
  go_wp2
  rw [Lib.run_to_unsafe w ⟨b, 0, none⟩ Tryd.underlying41 Tryd.underlying156 hj (by rw [hjs]; decide) hsh (Nat.zero_lt_succ 1)]
  simp only [Result.andThen]
  rw [Oper.upon_value]
  go_wp2
  rw [run_callFunc_extern Tryd.func120 (by kernel_rfl) (by kernel_rfl) (by kernel_rfl) (e := Extern.AbiNoEscape.same) (by kernel_rfl)]
  rw [Lib.run_noEscape]
  simp only [Result.andThen]
  rw [Oper.upon_value]
  go_wp2
  rw [Lib.run_from_unsafe w ⟨b, 0, none⟩ Tryd.underlying156 Tryd.underlying41 hj hsh (by kernel_rfl)]
  simp only [Result.andThen]
  rw [Oper.upon_value]
  go_wp2
  go_end0
  exact ⟨rfl, rfl⟩

theorem copyCheck_any (B b : Nat) (bs : List Value) (w : World) (h : Lib.IsBuilder 43 5 B b bs w) :
    Calls Tryd.prog 119 #[.pointer (some ⟨b, 0, none⟩)] w fun e w' => e = .returned (.tuple #[]) ∧ (Lib.BuilderAt 43 5 B b (.pointer (some ⟨b, 0, none⟩)) bs w' ∧ Below B w w') := by
  rcases h with h | h
  · refine (copyCheck_fresh b w h.cell0 h.shape h.frozen0).mono ?_
    rintro e w' ⟨rfl, rfl⟩
    exact ⟨rfl, h.used _, (Below.refl B w).setCell (p := ⟨b, 0, none⟩) h.1 _⟩
  · refine (copyCheck_used b w h.cell0).mono ?_
    rintro e w' ⟨rfl, rfl⟩
    exact ⟨rfl, h, Below.refl B _⟩

set_option maxHeartbeats 2000000 in
set_option maxRecDepth 100000 in
theorem builderWriteString (B b : Nat) (l : List UInt8) (s : ByteArray) (w : World) (h : Lib.IsBuilder 43 5 B b (Lib.byteCells l) w) (hlen : l.length + s.size ≤ 1000000) (hBw : B ≤ w.heap.size) :
    Calls Tryd.prog 118 #[.pointer (some ⟨b, 0, none⟩), .string s] w fun e w' => e = .returned (.tuple #[.int .i64 s.size, .nilIface]) ∧ (Lib.IsBuilder 43 5 B b (Lib.byteCells (l ++ s.data.toList)) w' ∧ Below B w w') := by
  obtain ⟨i0, hi, hz0, hz1, hz2⟩ := info_parts Tryd.infoByte
  have HC := Lib.hid (copyCheck_any B b (Lib.byteCells l) w h)
  clear h
  go_enter Tryd.func118, Tryd.ntmps118
  go_wp2_with fail
  refine HC.out.mono ?_
  rintro e w1 ⟨rfl, h1, hb1⟩
  obtain ⟨hB, v, hbk, hown, hne⟩ := h1
  rw [Lib.byteCells_length] at hown
  have c0 : w1.cell? ⟨b, 0, none⟩ = some (.pointer (some ⟨b, 0, none⟩)) := by rw [Lib.cell_of_heap hbk]; rfl
  have c1 : w1.cell? ⟨b, 1, none⟩ = some v := by rw [Lib.cell_of_heap hbk]; rfl
  have HO := Lib.hid hown
  have HBK := Lib.hid hbk
  have HB1 := Lib.hid hb1
  have HNE := Lib.hid hne
  clear hown hbk hb1 hne
  go_wp2_with (at_builtin; refine Lib.wpList_append_own_string _ rfl _ _ 27 9 rfl B 5 i0 Tryd.underlying27 Tryd.underlying9 hi hz0 hz1 hz2 _ _ _ rfl HO.out s rfl ?c3 ?c4 ?c5 ?_)
  case c3 => unfold maxLen; omega
  case c4 => omega
  case c5 => have := HB1.out.size; omega
  intro v' w2 hown' hgrow _
  have hlt : b < w1.heap.size := by
    rcases Nat.lt_or_ge b w1.heap.size with h' | h'
    · exact h'
    · have := HBK.out
      simp [Array.getElem?_eq_none h'] at this
  have hb2 : w2.heap[b]? = some (.cells #[.pointer (some ⟨b, 0, none⟩), v] 43 (0, 0)) := by
    rw [hgrow.block b hlt (fun e => HNE.out e.symm)]
    exact HBK.out
  have d0 : w2.cell? ⟨b, 0, none⟩ = some (.pointer (some ⟨b, 0, none⟩)) := by rw [Lib.cell_of_heap hb2]; rfl
  have d1 : w2.cell? ⟨b, 1, none⟩ = some v := by rw [Lib.cell_of_heap hb2]; rfl
  have f1 : w2.frozen? ⟨b, 1, none⟩ = false := Lib.frozen_of_heap hb2 1
  obtain ⟨ao, n', cap, rfl⟩ : ∃ ao n' cap, v' = .slice ao n' cap := by
    rcases hown'.2 with ⟨hv, _⟩ | ⟨g, cap, cur, hv, _⟩
    · exact ⟨_, _, _, hv⟩
    · exact ⟨_, _, _, hv⟩
  have HO2 := Lib.hid hown'
  have HG := Lib.hid hgrow
  have HB2 := Lib.hid hb2
  clear hown' hgrow hb2
  go_wp2
  go_ret2
  refine ⟨rfl, .inr ?_, ?_⟩
  · refine Lib.BuilderAt.put (T := 43) (e := 5) hB HB2.out (bs' := Lib.byteCells (l ++ s.data.toList)) ?_ (by decide)
    have h := HO2.out
    rw [Lib.strCells_eq, ← Lib.byteCells_append] at h
    rw [Lib.byteCells_length, List.length_append]
    simpa using h
  · exact (HB1.out.grown HG.out (by have := HB1.out.size; omega) (fun k hk => (HO.out.lt k hk).1)).setCell (p := ⟨b, 1, none⟩) hB _

theorem isStringWriter (v : Value) (w : World) : (Instr.typeAssert (.iface 41 v) 61 121 true).run Tryd.prog w = .ok (.tuple #[.iface 41 v, .bool true]) w :=
  run_typeAssert_hasB Tryd.underlying121 (by kernel_rfl) v 61 w
theorem builderMethod (n : Nat) (a : Addr) (w : World) : (method (n + 1) 41 (.pointer (some a)) "WriteString").run Tryd.prog w = .ok (118, .pointer (some a)) w := by kernel_rfl

set_option maxRecDepth 100000 in
set_option maxHeartbeats 1000000 in
theorem writeStringB (B b : Nat) (l : List UInt8) (s : ByteArray) (w : World) (h : Lib.IsBuilder 43 5 B b (Lib.byteCells l) w) (hlen : l.length + s.size ≤ 1000000) (hBw : B ≤ w.heap.size) :
    Calls Tryd.prog 50 #[.iface 41 (.pointer (some ⟨b, 0, none⟩)), .string s] w fun e w' => e = .returned (.tuple #[.int .i64 s.size, .nilIface]) ∧ (Lib.IsBuilder 43 5 B b (Lib.byteCells (l ++ s.data.toList)) w' ∧ Below B w w') := by
  have HW := Lib.hid (builderWriteString B b l s w h hlen hBw)
  clear h hlen
  have hna := isStringWriter (.pointer (some ⟨b, 0, none⟩))
  have hme := fun n => builderMethod n ⟨b, 0, none⟩
  go_enter Tryd.func50, Tryd.ntmps50
  go_wp2_with fail
  refine HW.out.mono ?_
  rintro e w' ⟨rfl, hbuf, hbel⟩
  have HB := Lib.hid hbuf
  have HE := Lib.hid hbel
  clear hbuf hbel
  go_wp2
  go_ret2
  exact ⟨rfl, HB.out, HE.out⟩
end Go.Proofs.YtlimibjmccbdlaaDoor
