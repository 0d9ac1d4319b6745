/-
  ZZText: what a set of counters writes, as a text.
-/
import Derived.Test.YtlimibjmccbdlaaGreatDoorSet
import Derived.Test.YtlimibjmccbdlaaGreatDoorWrite
import Derived.Lib.BufferRead
import Derived.Laws.AppendOwnNone
namespace Go.Proofs.YtlimibjmccbdlaaGreatDoor
open Go.RowKit Go.Sort

theorem bufWriteNil (ob : Nat) (w : World) (h : Box w ob 58 #[.slice none 0 0]) :
    Calls Tryz.prog 124 #[.pointer (some ⟨ob, 0, none⟩), .slice none 0 0] w fun e w' => e = .returned (.tuple #[.int .i64 0, .nilIface]) ∧ w.setCell ⟨ob, 0, none⟩ (.slice none 0 0) = w' := by
  have hc := h.cell 0
  have hf := h.free 0
  simp at hc
  clear h
  go_enter Tryz.func124, Tryz.ntmps124
  go_wp2
  go_ret2
  exact ⟨rfl, rfl⟩

set_option maxRecDepth 100000 in
set_option maxHeartbeats 1000000 in
/-- A set of no metrics writes nothing. -/
theorem write_none (B sb ob : Nat) (mv : Value) (w : World)
    (hset : Box w sb 47 #[.slice none 0 0, mv, .bool false, .slice none 0 0]) (hbuf : Box w ob 58 #[.slice none 0 0]) (hob : B ≤ ob) :
    Calls Tryz.prog 23 #[.pointer (some ⟨sb, 0, none⟩), .iface 62 (.pointer (some ⟨ob, 0, none⟩))] w
      fun e w' => e = .returned (.tuple #[]) ∧ Box w' ob 58 #[.slice none 0 0] ∧ Below B w w' := by
  have hc0 := hset.cell 0
  have hc3 := hset.cell 3
  simp at hc0 hc3
  have hlt := hset.lt
  have hol := hbuf.lt
  obtain ⟨w0, hw0⟩ : ∃ w0, w0 = w.alloc (.cells #[Value.slice none 0 0] 58) := ⟨_, rfl⟩
  have hset0 : Box w0 sb 47 #[.slice none 0 0, mv, .bool false, .slice none 0 0] := by rw [hw0]; exact hset.alloc _
  have hbb0 : Box w0 w.heap.size 58 #[.slice none 0 0] := by rw [hw0]; exact Box.made _ _ _
  have hob0 : Box w0 ob 58 #[.slice none 0 0] := by rw [hw0]; exact hbuf.alloc _
  have hbel0 : Below B w w0 := by rw [hw0]; exact (Below.refl _ _).alloc (by omega) _
  have HSORT := Lib.hid (sortStable_any B [] none 0 w0 (by simp) (World.ownsRow_nil _ _ _ _) (fun e he => by cases he))
  have HW := Lib.hid hw0
  have HM := Lib.hid (And.intro hset0 (And.intro hbb0 (And.intro hob0 hbel0)))
  clear hset hbuf hset0 hbb0 hob0 hbel0 hw0
  go_enter Tryz.func23, Tryz.ntmps23
  go_wp2_with fail
  rw [← HW.out]
  refine HSORT.out.mono ?_
  rintro e w1 ⟨rfl, es', hord, _, hg1⟩
  have hg1' : w0.grownBy w1 none := hg1
  have hset1 := HM.out.1.grown hg1' (by simp)
  have hbb1 := HM.out.2.1.grown hg1' (by simp)
  have hob1 := HM.out.2.2.1.grown hg1' (by simp)
  have d0 := hset1.cell 0
  have d3 := hset1.cell 3
  have d4 := hbb1.cell 0
  have d5 := hob1.cell 0
  have f5 := hob1.free 0
  simp at d0 d3 d4 d5
  have HM1 := Lib.hid (And.intro hob1 (And.intro hg1' (And.intro hord hg1)))
  clear hset1 hbb1 hob1 hg1' hord hg1
  have hme := fun n => bufMethod n ⟨ob, 0, none⟩
  go_wp2_with fail
  refine wp_loop_rounds 1 ?_
  rw [rounds_succ]
  go_wp2_with fail
  refine (bufWriteNil ob w1 HM1.out.1).mono ?_
  rintro e w2 ⟨rfl, h2⟩
  have H2 := Lib.hid h2
  clear h2
  go_wp2
  refine wp_loop_rounds 1 ?_
  rw [rounds_succ]
  go_wp2
  go_end0
  rw [← H2.out]
  refine ⟨rfl, by simpa using HM1.out.1.stored 0 (.slice none 0 0), (HM.out.2.2.2.trans ?_).setCell hob _⟩
  exact ⟨HM1.out.2.1.os, HM1.out.2.1.tape, HM1.out.2.1.output, HM1.out.2.1.size, fun k hk => HM1.out.2.1.block k (by
    have h1 : w.heap.size < w0.heap.size := by rw [HW.out]; simp
    omega) (by simp)⟩

theorem convNil (w : World) : (convert 23 9 (.slice none 0 0)).run Tryz.prog w = .ok (.string ⟨#[]⟩) w := by
  rw [run_convert_bytes_string w 23 9 5 none 0 0 Tryz.underlying23 Tryz.underlying5 Tryz.underlying9]
  rfl

/-- What a counter's line is. -/
def lineC (e : Met) : List UInt8 := lineOf e.name (Lib.decDigits e.v.toNat)

theorem counterKind : Kind 63 127 126 where
  tMethod := fun n a w => by kernel_rfl
  mMethod := fun n a w => by kernel_rfl
  tEnter := fun args w => by kernel_rfl
  mEnter := fun args w => by kernel_rfl
  type := fun b w => (counterType b w).mono fun _ _ h => ⟨⟨_, h.1⟩, h.2⟩

theorem counterFit (w : World) (B : Nat) (e : Met) (h : MetIs w B e) (hn : e.name.size ≤ 1000) (hv : 0 ≤ e.v) (hs : Spells w e.v.toNat) (hB : 4 ≤ B) : Fit w B 63 126 lineC e where
  named := h.named
  held := ⟨_, _, h.held, by decide, by decide⟩
  len := by
    have := digits_le hs
    have h1 : (lineC e).length = e.name.size + ((Lib.decDigits e.v.toNat).length + 2) := by
      unfold lineC lineOf
      simp
    omega
  writes := fun W Bx bb l hW hbel hBx hbuf hl => by
    have hc : Box W e.cb 91 #[.int .u64 (e.v.toNat : Int)] := by
      have := h.held
      rw [show e.v = (e.v.toNat : Int) by omega] at this
      exact hW.trans this
    exact counterMarshal Bx bb e.cb l e.name e.v.toNat W hBx hbuf hc (hs.below hbel hB) hn hl

set_option maxRecDepth 100000 in
set_option maxHeartbeats 1000000 in
theorem zzText (B sb mb : Nat) (sv : Value) (es : List Met) (w : World) (h : SetIs w B sb mb sv es) (h20 : es.length ≤ 20) (hB : 4 ≤ B) (hBw : B ≤ w.heap.size) (hm : ∀ e ∈ es, e.name.size ≤ 1000 ∧ 0 ≤ e.v ∧ Spells w e.v.toNat) :
    Calls Tryz.prog 16 #[.pointer (some ⟨sb, 0, none⟩)] w fun e w' => ∃ es', e = .returned (.string ⟨(text lineC es').toArray⟩) ∧ Ordered es es' ∧ Below B w w' := by
  have hbl := h.box.lt
  obtain ⟨w0, hw0⟩ : ∃ w0, w0 = w.alloc (.cells #[Value.slice none 0 0] 58) := ⟨_, rfl⟩
  have hob : Box w0 w.heap.size 58 #[.slice none 0 0] := by rw [hw0]; exact Box.made _ _ _
  have hbel0 : Below B w w0 := by rw [hw0]; exact (Below.refl _ _).alloc hBw _
  by_cases h0 : es = []
  · have hsv := h.nil h0
    subst hsv
    have hset : Box w0 sb 47 #[.slice none 0 0, .map (some mb), .bool false, .slice none 0 0] := by rw [hw0]; exact h.box.alloc _
    have HC := Lib.hid (write_none B sb w.heap.size _ w0 hset hob hBw)
    have HW := Lib.hid hw0
    have HB := Lib.hid hbel0
    clear h hm hob hbel0 hset hw0
    go_enter Tryz.func16, Tryz.ntmps16
    go_wp2_with fail
    rw [← HW.out]
    refine HC.out.mono ?_
    rintro e w1 ⟨rfl, hbx, hbel⟩
    have d := hbx.cell 0
    simp at d
    have H1 := Lib.hid hbel
    clear hbx hbel
    have hcv : (convert 23 9 (.slice none 0 0)).run Tryz.prog w1 = .ok (.string ⟨#[]⟩) w1 := convNil w1
    go_wp2
    go_ret
    exact ⟨[], rfl, ⟨by rw [h0], List.Pairwise.nil⟩, HB.out.trans H1.out⟩
  · obtain ⟨A, cap, hsv⟩ := own_form h.own
    subst hsv
    have hset : Box w0 sb 47 #[.slice A es.length cap, .map (some mb), .bool false, .slice none 0 0] := by rw [hw0]; exact h.box.alloc _
    have hown : w0.ownsRow B 79 1 (.slice A es.length cap) es.length (es.map encM) := by rw [hw0]; exact h.own.alloc _
    have hfit : ∀ e ∈ es, Fit w0 B 63 126 lineC e := fun e he => by
      obtain ⟨h1, h2, h3⟩ := hm e he
      exact counterFit w0 B e (by rw [hw0]; exact (h.met e he).alloc _) h1 h2 (h3.below hbel0 hB) hB
    have HC := Lib.hid (write_some _ _ _ counterKind lineC B sb w.heap.size es A cap _ w0 h0 h20 hset hown hfit hob hBw)
    have HF := Lib.hid hfit
    have HW := Lib.hid hw0
    have HB := Lib.hid hbel0
    clear h hm hob hbel0 hset hown hfit hw0
    go_enter Tryz.func16, Tryz.ntmps16
    go_wp2_with fail
    rw [← HW.out]
    refine HC.out.mono ?_
    rintro e w1 ⟨rfl, es', hord, ⟨v, hbx, hrow⟩, hbel⟩
    have hpos := text_pos lineC es' (by intro e; have := hord.1.length_eq; rw [e] at this; exact h0 (List.length_eq_zero_iff.1 (by simpa using this.symm))) (fun x hx => (HF.out x (hord.1.mem_iff.1 hx)).len.1)
    obtain ⟨g, c, hv⟩ := own_at hrow hpos
    subst hv
    have d := hbx.cell 0
    simp at d
    have hcv : (convert 23 9 (.slice (some ⟨g, 0, none⟩) (text lineC es').length c)).run Tryz.prog w1 = .ok (.string ⟨(text lineC es').toArray⟩) w1 :=
      run_convert_bytes_back (P := Tryz.prog) w1 23 9 5 ⟨g, 0, none⟩ c (text lineC es') Tryz.underlying23 Tryz.underlying5 Tryz.underlying9 (fun j hj => by
        rw [hrow.cells (g := g) rfl j (byteV (text lineC es')[j]) (by rw [List.getElem?_map, List.getElem?_eq_getElem hj]; rfl)]
        rfl)
    have HO := Lib.hid hord
    have H1 := Lib.hid hbel
    clear hbx hrow hbel hord hpos
    go_wp2
    go_ret
    exact ⟨es', rfl, HO.out, HB.out.trans H1.out⟩
end Go.Proofs.YtlimibjmccbdlaaGreatDoor
