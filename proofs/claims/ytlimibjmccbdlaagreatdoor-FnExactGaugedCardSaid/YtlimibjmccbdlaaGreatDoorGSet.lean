/-
  A set of one gauge: NewGauge makes it, ZZText writes it.
-/
import Derived.Test.YtlimibjmccbdlaaGreatDoorGMarshal
import Derived.Test.YtlimibjmccbdlaaGreatDoorSmall
namespace Go.Proofs.YtlimibjmccbdlaaGreatDoor
open Go.RowKit Go.Sort

/-- A set of one gauge, in memory. -/
structure GaugedSet (w : World) (B sb mb nb cb c : Nat) (s : ByteArray) (v : Value) : Prop where
  box : ∃ A, Box w sb 47 #[.slice A 1 c, .map (some mb), .bool false, .slice none 0 0] ∧ w.ownsRow B 79 1 (.slice A 1 c) 1 [.pointer (some ⟨nb, 0, none⟩)]
  named : Box w nb 82 #[.string s, .iface 36 (.pointer (some ⟨cb, 0, none⟩)), .bool false]
  held : Box w cb 50 #[v, .nilFunc]

set_option maxRecDepth 100000 in
set_option maxHeartbeats 2000000 in
/-- A new gauge of an empty set. -/
theorem newGauge (B sb mb : Nat) (s : ByteArray) (w : World) (h : SetIs w B sb mb (.slice none 0 0) []) (hs : GoodName s) (hB : B ≤ w.heap.size) :
    Calls Tryz.prog 11 #[.pointer (some ⟨sb, 0, none⟩), .string s, .nilFunc] w fun e w' =>
      ∃ nb cb c, e = .returned (.pointer (some ⟨cb, 0, none⟩)) ∧ B ≤ cb ∧ GaugedSet w' B sb mb nb cb c s (.int .u64 0) ∧ Below B w w' := by
  have hsz : s.size ≤ maxLen := by have := hs.1; unfold maxLen; omega
  have hlk : look [] s.data.toList = none := rfl
  have hbl := h.box.lt
  have hml := h.map.lt
  obtain ⟨o1, ho1⟩ : ∃ o1 : Obj, o1 = .cells #[.int .u64 0, .nilFunc] 50 := ⟨_, rfl⟩
  obtain ⟨o2, ho2⟩ : ∃ o2 : Obj, o2 = .cells #[.string s, .iface 36 (.pointer (some ⟨w.heap.size, 0, none⟩)), .bool false] 82 := ⟨_, rfl⟩
  have hmap1 : MapIs (w.alloc o1) mb [] := h.map.alloc _
  have hrun1 := hmap1.miss_ok s hsz hlk
  have hmap2 : MapIs ((w.alloc o1).alloc o2) mb [] := hmap1.alloc _
  obtain ⟨w1, hrun3, hmap3, hg3⟩ := hmap2.store ⟨w.heap.size + 1, w.heap.size, s, 0⟩ hsz hlk (by decide)
  simp only at hrun3
  have hbox1 : Box (w.alloc o1) sb 47 #[.slice none 0 0, .map (some mb), .bool false, .slice none 0 0] := h.box.alloc _
  have hbox2 : Box ((w.alloc o1).alloc o2) sb 47 #[.slice none 0 0, .map (some mb), .bool false, .slice none 0 0] := hbox1.alloc _
  have hnew1 : Box ((w.alloc o1).alloc o2) w.heap.size 50 #[.int .u64 0, .nilFunc] := by rw [ho1]; exact (Box.made w _ _).alloc _
  have hnew2 : Box ((w.alloc o1).alloc o2) (w.heap.size + 1) 82 #[.string s, .iface 36 (.pointer (some ⟨w.heap.size, 0, none⟩)), .bool false] := by
    have h := Box.made (w.alloc o1) 82 #[.string s, .iface 36 (.pointer (some ⟨w.heap.size, 0, none⟩)), .bool false]
    rw [← ho2] at h
    simpa using h
  have hnew23 := hnew2.grown hg3 (fun e => hmap2.apart hnew2 (by injection e))
  have hnew2X := hnew23.alloc (.cells #[.pointer (some ⟨w.heap.size + 1, 0, none⟩)] 79)
  have HN2X := Lib.hid hnew2X
  have hbox3 := hbox2.grown hg3 (fun e => hmap2.apart hbox2 (by injection e))
  have hnew13 := hnew1.grown hg3 (fun e => hmap2.apart hnew1 (by injection e))
  have c0 := hbox1.cell 1
  have c1 := hbox2.cell 1
  have c2 := hbox3.cell 0
  simp at c0 c1 c2
  have hsz1 : w.heap.size + 2 ≤ w1.heap.size := by have := hg3.size; simpa using this
  have hboxX := hbox3.alloc (.cells #[.pointer (some ⟨w.heap.size + 1, 0, none⟩)] 79)
  have hnew1X := hnew13.alloc (.cells #[.pointer (some ⟨w.heap.size + 1, 0, none⟩)] 79)
  have hownX : (w1.alloc (.cells #[.pointer (some ⟨w.heap.size + 1, 0, none⟩)] 79)).ownsRow B 79 1 (.slice none 0 0) 0 [] := World.ownsRow_nil _ _ _ _
  have hbelX : Below B w (w1.alloc (.cells #[.pointer (some ⟨w.heap.size + 1, 0, none⟩)] 79)) := by
    refine Below.alloc ?_ (by omega) _
    refine Below.grown (((Below.refl B w).alloc hB o1).alloc (by simp; omega) o2) hg3 (by simp; omega) (fun k hk => ?_)
    cases hk
    exact h.mlo
  have HBELX := Lib.hid hbelX
  have HV := Lib.hid (fun W : World => validate_good s hs W)
  have HB3 := Lib.hid hboxX
  have HN1 := Lib.hid hnew1X
  have HO3 := Lib.hid hownX
  have hBw : B ≤ (w1.alloc (.cells #[.pointer (some ⟨w.heap.size + 1, 0, none⟩)] 79)).heap.size := by simp; omega
  have HBW := Lib.hid hBw
  obtain ⟨i0, hi, hz0, hz1, hz2⟩ := info_parts infoPtr
  have HSLO := Lib.hid h.slo
  clear hnew2 hnew23 hnew2X
  clear h hs hmap1 hmap2 hmap3 hg3 hbox1 hbox2 hnew1 hbox3 hnew13 hboxX hnew1X hownX hbelX hlk hsz hBw hsz1
  subst ho1 ho2
  go_enter Tryz.func11, Tryz.ntmps11
  go_wp2_with fail
  go_enter Tryz.func19, Tryz.ntmps19
  go_wp2_with fail
  refine (HV.out _).mono ?_
  rintro e w' ⟨rfl, rfl⟩
  go_wp2_with fail
  go_enter Tryz.func31, Tryz.ntmps31
  go_wp2_with (at_builtin; refine wpList_append_own _ rfl _ _ 44 rfl B 79 i0 (.pointer none) 1 8 Tryz.underlying44 hi hz0 hz1 hz2 rfl (by decide) (.slice none 0 0) 0 [] rfl HO3.out ⟨w1.heap.size, 0, none⟩ 1 1 [.pointer (some ⟨w.heap.size + 1, 0, none⟩)] rfl rfl (cell_one_new _ _ _) (by simp [Value.oneCell']) (by decide) (by decide) HBW.out ?_; intro v' w2 hown2 hgrow2 _; obtain ⟨A', c', hv'⟩ := own_form hown2; rw [hv'] at hown2 ⊢; clear hv'; have hb2 := HB3.out.grown hgrow2 (by simp [Value.ownBlock]); have hn2 := HN1.out.grown hgrow2 (by simp [Value.ownBlock]); have HN2 := Lib.hid hn2; have HO2 := Lib.hid hown2; have HNM := Lib.hid (HN2X.out.grown hgrow2 (by simp [Value.ownBlock])); have d0 := hb2.cell 0; have f0 := hb2.free 0; simp at d0; have HB2 := Lib.hid hb2; have HG2 := Lib.hid hgrow2; clear hb2 hn2 hown2 hgrow2)
  go_end0
  go_wp2
  go_end0
  go_wp2
  go_ret
  refine ⟨w.heap.size + 1, w.heap.size, c', rfl, hB, ⟨⟨A', ?_, ?_⟩, HNM.out.aside (p := ⟨sb, 0, none⟩) (HNM.out.apart HB2.out (by decide)) _, HN2.out.aside (p := ⟨sb, 0, none⟩) (HN2.out.apart HB2.out (by decide)) _⟩, (HBELX.out.grown HG2.out HBW.out (by simp [Value.ownBlock])).setCell (p := ⟨sb, 0, none⟩) HSLO.out _⟩
  · have h := HB2.out.stored 0 (.slice A' 1 c')
    simpa using h
  · exact own_stored HO2.out HB2.out (by decide) 0 _

/-- The gauge's number is stored: the set stays what it is. -/
theorem GaugedSet.stored {w : World} {B sb mb nb cb c : Nat} {s : ByteArray} {v : Value} (h : GaugedSet w B sb mb nb cb c s v) (u : Value) : GaugedSet (w.setCell ⟨cb, 0, none⟩ u) B sb mb nb cb c s u := by
  obtain ⟨A, hb, ho⟩ := h.box
  refine ⟨⟨A, hb.aside (p := ⟨cb, 0, none⟩) (hb.apart h.held (by decide)) _, own_stored ho h.held (by decide) 0 _⟩, h.named.aside (p := ⟨cb, 0, none⟩) (h.named.apart h.held (by decide)) _, ?_⟩
  have := h.held.stored 0 u
  simpa using this
theorem GaugedSet.gauge {w : World} {B sb mb nb cb c : Nat} {s : ByteArray} {n : Int} (h : GaugedSet w B sb mb nb cb c s (.int .u64 (fw n))) : GaugeIs w cb n := h.held

set_option maxRecDepth 100000 in
set_option maxHeartbeats 1000000 in
/-- ZZText at a set of one gauge. -/
theorem gaugeText (B sb mb nb cb c : Nat) (s : ByteArray) (v : Nat) (w : World) (h : GaugedSet w B sb mb nb cb c s (.int .u64 (fw v))) (hB : 4 ≤ B) (hBw : B ≤ w.heap.size) (hs : s.size ≤ 1000) (h0 : v ≠ 0) (hv : v < 2 ^ 51)
    (hp : Lib.TabIs Tryz.prog w "internal/strconv.uint64pow10" .u64 Lib.pow10Tab) :
    Calls Tryz.prog 16 #[.pointer (some ⟨sb, 0, none⟩)] w fun e w' => e = .returned (.string ⟨(lineOf s (Lib.decDigits v)).toArray⟩) ∧ Below B w w' := by
  obtain ⟨A, hbx, hown0⟩ := h.box
  have hbl := hbx.lt
  obtain ⟨w0, hw0⟩ : ∃ w0, w0 = w.alloc (.cells #[Value.slice none 0 0] 58) := ⟨_, rfl⟩
  have hob : Box w0 w.heap.size 58 #[.slice none 0 0] := by rw [hw0]; exact Box.made _ _ _
  have hbel0 : Below B w w0 := by rw [hw0]; exact (Below.refl _ _).alloc hBw _
  have htab : ∀ g, Tryz.prog.globalNamed "internal/strconv.uint64pow10" = some g → g < B := fun g hg => by
    have e : Tryz.prog.globalNamed "internal/strconv.uint64pow10" = some 0 := by kernel_rfl
    obtain rfl := Option.some.inj (hg.symm.trans e)
    omega
  have hp0 := tabIs_below hp hbel0 htab
  have hdig : (Lib.decDigits v).length ≤ 20 := digits_le (w := w) (.inr ⟨by omega, hp⟩)
  have hset : Box w0 sb 47 #[.slice A [(⟨nb, cb, s, 0⟩ : Met)].length c, .map (some mb), .bool false, .slice none 0 0] := by rw [hw0]; exact hbx.alloc _
  have hown : w0.ownsRow B 79 1 (.slice A [(⟨nb, cb, s, 0⟩ : Met)].length c) [(⟨nb, cb, s, 0⟩ : Met)].length ([(⟨nb, cb, s, 0⟩ : Met)].map encM) := by rw [hw0]; exact hown0.alloc _
  have hfit : ∀ e ∈ [(⟨nb, cb, s, 0⟩ : Met)], Fit w0 B 36 79 (fun e => lineOf e.name (Lib.decDigits v)) e := fun e he => by
    obtain rfl := List.mem_singleton.1 he
    have hheld0 : Box w0 cb 50 #[.int .u64 (fw v), .nilFunc] := by rw [hw0]; exact h.held.alloc _
    refine ⟨by rw [hw0]; exact h.named.alloc _, ⟨_, _, hheld0, by decide, by decide⟩, ?_, fun W Bx bb l hW hbel hBx hbuf hl => ?_⟩
    · have h1 : (lineOf s (Lib.decDigits v)).length = s.size + ((Lib.decDigits v).length + 2) := by
        unfold lineOf
        simp
      show 1 ≤ (lineOf s (Lib.decDigits v)).length ∧ (lineOf s (Lib.decDigits v)).length ≤ 2000
      omega
    · exact gaugeMarshal Bx bb cb l s v W hBx hbuf (hW.trans hheld0) h0 hv (tabIs_below hp0 hbel htab) hs hl
  have HC := Lib.hid (write_some _ _ _ gaugeKind (fun e => lineOf e.name (Lib.decDigits v)) B sb w.heap.size [(⟨nb, cb, s, 0⟩ : Met)] A c _ w0 (by simp) (by simp) hset hown hfit hob hBw)
  have HW := Lib.hid hw0
  have HB := Lib.hid hbel0
  clear h hob hbel0 hset hown hfit hw0 hown0 hbx hp hp0
  go_enter Tryz.func16, Tryz.ntmps16
  go_wp2_with fail
  rw [← HW.out]
  refine HC.out.mono ?_
  rintro e w1 ⟨rfl, es', hord, ⟨vv, hbx, hrow⟩, hbel⟩
  obtain rfl : es' = [(⟨nb, cb, s, 0⟩ : Met)] := List.perm_singleton.1 hord.1
  have htx : text (fun e => lineOf e.name (Lib.decDigits v)) [(⟨nb, cb, s, 0⟩ : Met)] = lineOf s (Lib.decDigits v) := by simp [text]
  rw [htx] at hrow
  have hlen : 0 < (lineOf s (Lib.decDigits v)).length := by unfold lineOf; simp; omega
  obtain ⟨g, cc, hvv⟩ := own_at hrow hlen
  subst hvv
  have d := hbx.cell 0
  simp at d
  have hcv : (convert 23 9 (.slice (some ⟨g, 0, none⟩) (lineOf s (Lib.decDigits v)).length cc)).run Tryz.prog w1 = .ok (.string ⟨(lineOf s (Lib.decDigits v)).toArray⟩) w1 :=
    run_convert_bytes_back (P := Tryz.prog) w1 23 9 5 ⟨g, 0, none⟩ cc (lineOf s (Lib.decDigits v)) Tryz.underlying23 Tryz.underlying5 Tryz.underlying9 (fun j hj => by
      rw [hrow.cells (g := g) rfl j (byteV (lineOf s (Lib.decDigits v))[j]) (by rw [List.getElem?_map, List.getElem?_eq_getElem hj]; rfl)]
      rfl)
  have H1 := Lib.hid hbel
  clear hbx hrow hbel hord
  go_wp2
  go_ret
  exact ⟨rfl, HB.out.trans H1.out⟩
end Go.Proofs.YtlimibjmccbdlaaGreatDoor
