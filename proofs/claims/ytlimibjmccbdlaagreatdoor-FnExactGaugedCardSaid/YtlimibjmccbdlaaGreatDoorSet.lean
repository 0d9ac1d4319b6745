/-
  A set of counters in memory ('SetIs'); NewSet makes the empty one; GetOrCreateCounter hands the counter of a name out, a new one where there is none; Add adds to it.
-/
import Derived.Test.YtlimibjmccbdlaaGreatDoorName
import Derived.Test.YtlimibjmccbdlaaGreatDoorSort
import Derived.Stop.Asserts
namespace Go.Proofs.YtlimibjmccbdlaaGreatDoor
open Go.RowKit Go.Sort

/-- A metric as it lies in memory: its name's block and its number's. -/
structure MetIs (w : World) (B : Nat) (e : Met) : Prop where
  named : Box w e.nb 82 #[.string e.name, .iface 63 (.pointer (some ⟨e.cb, 0, none⟩)), .bool false]
  held : Box w e.cb 91 #[.int .u64 e.v]
  nlo : B ≤ e.nb
  clo : B ≤ e.cb
/-- A set of counters, in blocks from B on. -/
structure SetIs (w : World) (B sb mb : Nat) (sv : Value) (es : List Met) : Prop where
  box : Box w sb 47 #[sv, .map (some mb), .bool false, .slice none 0 0]
  own : w.ownsRow B 79 1 sv es.length (es.map encM)
  map : MapIs w mb es
  met : ∀ e ∈ es, MetIs w B e
  slo : B ≤ sb
  mlo : B ≤ mb
  cells : (es.map (·.cb)).Nodup
  names : (es.map (·.name)).Nodup
  nil : es = [] → sv = .slice none 0 0

section
variable {w w' : World} {B : Nat} {e : Met}
theorem MetIs.kept {row : Option Nat} (h : MetIs w B e) (hg : w.grownBy w' row) (h1 : some e.nb ≠ row) (h2 : some e.cb ≠ row) : MetIs w' B e := ⟨h.named.grown hg h1, h.held.grown hg h2, h.nlo, h.clo⟩
theorem MetIs.alloc (h : MetIs w B e) (o : Obj) : MetIs (w.alloc o) B e := ⟨h.named.alloc o, h.held.alloc o, h.nlo, h.clo⟩
end

theorem look_mem : ∀ {es : List Met} {e : Met}, (es.map (·.name)).Nodup → e ∈ es → look es e.name.data.toList = some e
  | a :: r, e, hn, he => by
    unfold look
    rw [List.map_cons, List.nodup_cons] at hn
    by_cases hx : a.name.data.toList = e.name.data.toList
    · have hae : a = e := by
        rcases List.mem_cons.1 he with h | h
        · exact h.symm
        · exact absurd (List.mem_map.2 ⟨e, h, (ba_ext hx).symm⟩) hn.1
      rw [List.find?_cons_of_pos (by simpa using hx), hae]
    · rw [List.find?_cons_of_neg (by simpa using hx)]
      rcases List.mem_cons.1 he with h | h
      · subst h
        exact absurd rfl hx
      · exact look_mem hn.2 h
theorem look_absent {es : List Met} {s : ByteArray} (h : s ∉ es.map (·.name)) : look es s.data.toList = none := by
  unfold look
  rw [List.find?_eq_none]
  intro e he
  simp only [beq_iff_eq]
  intro hl
  exact h (List.mem_map.2 ⟨e, he, ba_ext hl⟩)

theorem newSet (w : World) :
    Calls Tryz.prog 10 #[] w fun e w' => ∃ sb mb, e = .returned (.pointer (some ⟨sb, 0, none⟩)) ∧ SetIs w' w.heap.size sb mb (.slice none 0 0) [] ∧ Below w.heap.size w w' := by
  have hmm := @run_makeMap Tryz.prog
  go_enter Tryz.func10, Tryz.ntmps10
  go_wp2
  go_ret
  refine ⟨w.heap.size + 1, w.heap.size, rfl, ⟨?_, World.ownsRow_nil _ _ _ _, ?_, by simp, by omega, by omega, by simp, by simp, fun _ => rfl⟩, ((Below.refl _ _).alloc (by omega) _).alloc (by simp) _⟩
  · have h := Box.made (w.alloc (.map #[] 0)) 47 #[.slice none 0 0, .map (some w.heap.size), .bool false, .slice none 0 0]
    simpa using h
  · exact (MapIs.made w).alloc _

/-- The counter that stands behind a metric's interface value. -/
theorem isCounter (v : Value) (w : World) : (Instr.typeAssert (.iface 63 v) 73 63 true).run Tryz.prog w = .ok (.tuple #[v, .bool true]) w := by
  simp [Instr.typeAssert, run_underlying Tryz.underlying63]

set_option maxHeartbeats 1000000 in
/-- A name that the set has. -/
theorem getHit (B sb mb : Nat) (sv : Value) (es : List Met) (e0 : Met) (w : World) (h : SetIs w B sb mb sv es) (he : e0 ∈ es) (hs : e0.name.size ≤ 1000) :
    Calls Tryz.prog 24 #[.pointer (some ⟨sb, 0, none⟩), .string e0.name] w fun e w' => e = .returned (.pointer (some ⟨e0.cb, 0, none⟩)) ∧ w = w' := by
  have hlk := look_mem h.names he
  have hrun := h.map.hit e0.name (by unfold maxLen; omega) hlk
  have c1 := h.box.cell 1
  have hm := h.met e0 he
  have c2 := hm.named.cell 1
  simp at c1 c2
  have hic := isCounter (.pointer (some ⟨e0.cb, 0, none⟩))
  clear h he hlk hm hs
  go_enter Tryz.func24, Tryz.ntmps24
  go_wp2
  go_ret
  exact ⟨rfl, rfl⟩

theorem infoPtr : (Tryz.prog.info? 79).map (fun i => (i.zero, i.size, i.bytes)) = some (some (.pointer none), 1, 8) := by kernel_rfl

set_option maxRecDepth 100000 in
set_option maxHeartbeats 2000000 in
/-- A name that the set has not. -/
theorem getMiss (B sb mb : Nat) (sv : Value) (es : List Met) (s : ByteArray) (w : World) (h : SetIs w B sb mb sv es) (hno : s ∉ es.map (·.name)) (hs : GoodName s) (hB : B ≤ w.heap.size) (hl : es.length < 1000) :
    Calls Tryz.prog 24 #[.pointer (some ⟨sb, 0, none⟩), .string s] w fun e w' =>
      ∃ nb cb sv', e = .returned (.pointer (some ⟨cb, 0, none⟩)) ∧ SetIs w' B sb mb sv' (es ++ [⟨nb, cb, s, 0⟩]) ∧ Below B w w' := by
  have hsz : s.size ≤ maxLen := by have := hs.1; unfold maxLen; omega
  have hlk := look_absent hno
  have hrun := h.map.miss s hsz hlk
  have hbl := h.box.lt
  have hml := h.map.lt
  obtain ⟨o1, ho1⟩ : ∃ o1 : Obj, o1 = .cells #[.int .u64 0] 91 := ⟨_, rfl⟩
  obtain ⟨o2, ho2⟩ : ∃ o2 : Obj, o2 = .cells #[.string s, .iface 63 (.pointer (some ⟨w.heap.size, 0, none⟩)), .bool false] 82 := ⟨_, rfl⟩
  have hmap2 : MapIs ((w.alloc o1).alloc o2) mb es := (h.map.alloc _).alloc _
  have hrun2 := hmap2.miss s hsz hlk
  obtain ⟨w1, hrun3, hmap3, hg3⟩ := hmap2.store ⟨w.heap.size + 1, w.heap.size, s, 0⟩ hsz hlk (by unfold maxLen; omega)
  simp only at hrun3
  have hbox2 : Box ((w.alloc o1).alloc o2) sb 47 #[sv, .map (some mb), .bool false, .slice none 0 0] := (h.box.alloc _).alloc _
  have hnew1 : Box ((w.alloc o1).alloc o2) w.heap.size 91 #[.int .u64 0] := by rw [ho1]; exact (Box.made w _ _).alloc _
  have hnew2 : Box ((w.alloc o1).alloc o2) (w.heap.size + 1) 82 #[.string s, .iface 63 (.pointer (some ⟨w.heap.size, 0, none⟩)), .bool false] := by
    have h := Box.made (w.alloc o1) 82 #[.string s, .iface 63 (.pointer (some ⟨w.heap.size, 0, none⟩)), .bool false]
    rw [← ho2] at h
    simpa using h
  have hbox3 := hbox2.grown hg3 (fun e => hmap2.apart hbox2 (by injection e))
  have hnew13 := hnew1.grown hg3 (fun e => hmap2.apart hnew1 (by injection e))
  have hnew23 := hnew2.grown hg3 (fun e => hmap2.apart hnew2 (by injection e))
  have hown3 : w1.ownsRow B 79 1 sv es.length (es.map encM) := ((h.own.alloc o1).alloc o2).kept hg3 (.inr (hmap2.own_apart ((h.own.alloc o1).alloc o2)))
  have hmet3 : ∀ e ∈ es, MetIs w1 B e := fun e he => by
    have hm := ((h.met e he).alloc o1).alloc o2
    exact hm.kept hg3 (fun e => hmap2.apart hm.named (by injection e)) (fun e => hmap2.apart hm.held (by injection e))
  have c0 := h.box.cell 1
  have c1 := hbox2.cell 1
  have c2 := hbox3.cell 0
  simp at c0 c1 c2
  have hsz1 : w.heap.size + 2 ≤ w1.heap.size := by have := hg3.size; simpa using this
  have hboxX := hbox3.alloc (.cells #[.pointer (some ⟨w.heap.size + 1, 0, none⟩)] 79)
  have hnew1X := hnew13.alloc (.cells #[.pointer (some ⟨w.heap.size + 1, 0, none⟩)] 79)
  have hnew2X := hnew23.alloc (.cells #[.pointer (some ⟨w.heap.size + 1, 0, none⟩)] 79)
  have hownX := hown3.alloc (.cells #[.pointer (some ⟨w.heap.size + 1, 0, none⟩)] 79)
  have hmetX : ∀ e ∈ es, MetIs (w1.alloc (.cells #[.pointer (some ⟨w.heap.size + 1, 0, none⟩)] 79)) B e := fun e he => (hmet3 e he).alloc _
  have hmapX := hmap3.alloc (.cells #[.pointer (some ⟨w.heap.size + 1, 0, none⟩)] 79)
  have ha1 := own_apart' hownX hboxX (by decide)
  have ha2 := own_apart' hownX hnew2X (by decide)
  have ha3 : some mb ≠ sv.ownBlock := fun e => hmapX.own_apart hownX e.symm
  have ha4 : ∀ e ∈ es, some e.nb ≠ sv.ownBlock ∧ some e.cb ≠ sv.ownBlock := fun e he => ⟨own_apart' hownX (hmetX e he).named (by decide), own_apart' hownX (hmetX e he).held (by decide)⟩
  have ha5 := own_apart' hownX hnew1X (by decide)
  have hbelX : Below B w (w1.alloc (.cells #[.pointer (some ⟨w.heap.size + 1, 0, none⟩)] 79)) := by
    refine Below.alloc ?_ (by omega) _
    refine Below.grown (((Below.refl B w).alloc hB o1).alloc (by simp; omega) o2) hg3 (by simp; omega) (fun k hk => ?_)
    cases hk
    exact h.mlo
  have HA3 := Lib.hid ha3
  have HA4 := Lib.hid ha4
  have HA5 := Lib.hid ha5
  have HBELX := Lib.hid hbelX
  have HV := Lib.hid (fun W : World => validate_good s hs W)
  have HB3 := Lib.hid hboxX
  have HN1 := Lib.hid hnew1X
  have HN2 := Lib.hid hnew2X
  have HO3 := Lib.hid hownX
  have HM3 := Lib.hid hmetX
  have HMAP3 := Lib.hid hmapX
  have HA1 := Lib.hid ha1
  have HA2 := Lib.hid ha2
  have HG3 := Lib.hid hg3
  have HH := Lib.hid h
  have hm1 : es.length + 1 ≤ maxLen := by unfold maxLen; omega
  have hm2 : (es.length + 1) * 8 ≤ 140737488355328 := by omega
  have HM1 := Lib.hid hm1
  have HM2 := Lib.hid hm2
  have hBw : B ≤ (w1.alloc (.cells #[.pointer (some ⟨w.heap.size + 1, 0, none⟩)] 79)).heap.size := by simp; omega
  have HBW := Lib.hid hBw
  have HSZ1 := Lib.hid hsz1
  obtain ⟨i0, hi, hz0, hz1, hz2⟩ := info_parts infoPtr
  have hic := isCounter (.pointer (some ⟨w.heap.size, 0, none⟩))
  have HNO := Lib.hid hno
  clear h hno hs hmap2 hmap3 hg3 hbox2 hnew1 hnew2 hbox3 hnew13 hnew23 hown3 hmet3 hboxX hnew1X hnew2X hownX hmetX hmapX ha1 ha2 ha3 ha4 ha5 hbelX hlk hsz hm1 hm2 hBw hsz1
  subst ho1 ho2
  go_enter Tryz.func24, Tryz.ntmps24
  go_wp2_with fail
  refine (HV.out _).mono ?_
  rintro e w' ⟨rfl, rfl⟩
  go_wp2_with (at_builtin; refine wpList_append_own _ rfl _ _ 44 rfl B 79 i0 (.pointer none) 1 8 Tryz.underlying44 hi hz0 hz1 hz2 rfl (by decide) sv es.length (es.map encM) rfl HO3.out ⟨w1.heap.size, 0, none⟩ 1 1 [.pointer (some ⟨w.heap.size + 1, 0, none⟩)] rfl rfl (cell_one_new _ _ _) (by simp [Value.oneCell']) HM1.out HM2.out HBW.out ?_; intro v' w2 hown2 hgrow2 _; obtain ⟨A', c', hv'⟩ := own_form hown2; rw [hv'] at hown2 ⊢; clear hv'; have hb2 := HB3.out.grown hgrow2 HA1.out; have hn2 := HN2.out.grown hgrow2 HA2.out; have d0 := hb2.cell 0; have f0 := hb2.free 0; have q1 := (hn2.aside (p := Addr.mk sb 0 none) (Nat.ne_of_gt (Nat.lt_succ_of_lt hbl)) (.slice A' (es.length + 1) c')).cell 1; simp at d0 q1; have HB2 := Lib.hid hb2; have HN22 := Lib.hid hn2; have HO2 := Lib.hid hown2; have HG2 := Lib.hid hgrow2; clear hb2 hn2 hown2 hgrow2)
  go_ret
  have hb := HB2.out.stored 0 (.slice A' (es.length + 1) c')
  have hmetS : ∀ e ∈ es, MetIs (w2.setCell ⟨sb, 0, none⟩ (.slice A' (es.length + 1) c')) B e := fun e he => by
    have h1 := (HM3.out e he).kept HG2.out (HA4.out e he).1 (HA4.out e he).2
    exact ⟨h1.named.aside (p := ⟨sb, 0, none⟩) (h1.named.apart HB2.out (by decide)) _, h1.held.aside (p := ⟨sb, 0, none⟩) (h1.held.apart HB2.out (by decide)) _, h1.nlo, h1.clo⟩
  have hn1 := HN1.out.grown HG2.out HA5.out
  refine ⟨w.heap.size + 1, w.heap.size, .slice A' (es.length + 1) c', rfl, ⟨by simpa using hb, ?_, ?_, ?_, HH.out.slo, HH.out.mlo, ?_, ?_, by simp⟩, ?_⟩
  · rw [List.map_append, List.length_append]
    exact own_stored HO2.out HB2.out (by decide) 0 _
  · exact (HMAP3.out.kept HG2.out HA3.out).setCell HB2.out 0 _
  · intro e he
    rcases List.mem_append.1 he with he | he
    · exact hmetS e he
    · obtain rfl := List.mem_singleton.1 he
      exact ⟨HN22.out.aside (p := ⟨sb, 0, none⟩) (HN22.out.apart HB2.out (by decide)) _, hn1.aside (p := ⟨sb, 0, none⟩) (hn1.apart HB2.out (by decide)) _, by simp; omega, hB⟩
  · rw [List.map_append, List.nodup_append]
    refine ⟨HH.out.cells, by simp, fun a ha b hb' => ?_⟩
    obtain ⟨e, he, rfl⟩ := List.mem_map.1 ha
    have h1 := (HH.out.met e he).held.lt
    simp at hb'
    omega
  · rw [List.map_append, List.nodup_append]
    refine ⟨HH.out.names, by simp, fun a ha b hb' => ?_⟩
    simp at hb'
    subst hb'
    intro h
    subst h
    exact HNO.out ha
  · exact (HBELX.out.grown HG2.out HBW.out (fun k hk => (HO3.out.lt k hk).1)).setCell HH.out.slo _

theorem counter_set (B sb mb : Nat) (sv : Value) (pre post : List Met) (e0 : Met) (n : Int) (w : World) (h : SetIs w B sb mb sv (pre ++ e0 :: post)) :
    Calls Tryz.prog 25 #[.pointer (some ⟨e0.cb, 0, none⟩), .int .i64 n] w fun e w' =>
      e = .returned (.tuple #[]) ∧ SetIs w' B sb mb sv (pre ++ { e0 with v := addU e0.v n } :: post) ∧ Below B w w' := by
  have h0 := h.met e0 (by simp)
  refine (counterAdd e0.cb e0.v n w h0.held).mono ?_
  rintro e w' ⟨rfl, rfl⟩
  refine ⟨rfl, ⟨h.box.aside (p := ⟨e0.cb, 0, none⟩) (h.box.apart h0.held (by decide)) _, ?_, ?_, ?_, h.slo, h.mlo, ?_, ?_, fun hx => by simp at hx⟩, (Below.refl B w).setCell h0.clo _⟩
  · have := own_stored h.own h0.held (by decide) 0 (.int .u64 (addU e0.v n))
    simpa [encM] using this
  · obtain ⟨D, hD, hm, hat⟩ := h.map.setCell h0.held 0 (.int .u64 (addU e0.v n))
    refine ⟨D, by simpa using hD, hm, fun l z => ?_⟩
    rw [hat]
    unfold look
    simp only [List.find?_append, List.find?_cons]
    cases h1 : pre.find? (fun e => e.name.data.toList == l) <;> cases h2 : e0.name.data.toList == l <;> simp
  · intro e he
    have keep : ∀ x ∈ pre ++ e0 :: post, x.cb ≠ e0.cb → MetIs (w.setCell ⟨e0.cb, 0, none⟩ (.int .u64 (addU e0.v n))) B x := fun x hx hne => by
      have hxm := h.met x hx
      exact ⟨hxm.named.aside (p := ⟨e0.cb, 0, none⟩) (hxm.named.apart h0.held (by decide)) _, hxm.held.aside (p := ⟨e0.cb, 0, none⟩) hne _, hxm.nlo, hxm.clo⟩
    have hnd := h.cells
    rw [List.map_append, List.map_cons, List.nodup_append, List.nodup_cons] at hnd
    obtain ⟨_, ⟨hn1, _⟩, hn2⟩ := hnd
    rcases List.mem_append.1 he with he | he
    · exact keep e (by simp [he]) (hn2 _ (List.mem_map.2 ⟨e, he, rfl⟩) _ (by simp))
    · rcases List.mem_cons.1 he with he | he
      · subst he
        exact ⟨h0.named.aside (p := ⟨e0.cb, 0, none⟩) (h0.named.apart h0.held (by decide)) _, by simpa using h0.held.stored 0 (.int .u64 (addU e0.v n)), h0.nlo, h0.clo⟩
      · exact keep e (by simp [he]) (fun hx => hn1 (List.mem_map.2 ⟨e, he, hx⟩))
  · have := h.cells
    simpa using this
  · have := h.names
    simpa using this
end Go.Proofs.YtlimibjmccbdlaaGreatDoor
