/-
  (*Set).UnregisterMetric at a name that the set has.
-/
import Derived.Test.YtlimibjmccbdlaaDoorDrop
namespace Go.Proofs.YtlimibjmccbdlaaDoor
open Go.ChangeShapes Go.WideShapes Go.ChangeAt Go.RowKit

set_option maxRecDepth 1000000 in
set_option maxHeartbeats 4000000 in
/-- A name that the set has. -/
theorem unregHit (B sb mb : Nat) (sv : Value) (pre post : List Met) (e0 : Met) (w : World) (h : SetAt w B sb mb sv (pre ++ e0 :: post)) (hs : e0.name.size ≤ 1000) (hB : B ≤ w.heap.size) (h20 : (pre ++ e0 :: post).length ≤ 20) :
    Calls Tryd.prog 36 #[.pointer (some ⟨sb, 0, none⟩), .string e0.name] w fun e w' => ∃ sv', e = .returned (.bool true) ∧ SetAt w' B sb mb sv' (pre ++ post) ∧ Below B w w' ∧
      ∀ (k : Nat) (t : TypeId) (cs : Array Value), Box w k t cs → t ≠ 69 → t ≠ 68 → Box w' k t cs := by
  obtain ⟨g, cap, hv⟩ := own_at h.own (by simp; omega)
  subst hv
  have hrun := h.hit_ok e0 (by simp) (by unfold maxLen; omega)
  have c1 := h.box.cell 1
  have hm := h.met e0 (by simp)
  have c2 := hm.named.cell 2
  simp at c1 c2
  obtain ⟨w0, hw0⟩ : ∃ w0, w0 = w.alloc (.cells #[.pointer (some ⟨sb, 0, none⟩)] 48) := ⟨_, rfl⟩
  have hbox0 : Box w0 sb 68 #[.slice (some ⟨g, 0, none⟩) (pre ++ e0 :: post).length cap, .map (some mb), .bool false, .slice none 0 0] := by rw [hw0]; exact h.box.alloc _
  have hcap0 : Box w0 w.heap.size 48 #[.pointer (some ⟨sb, 0, none⟩)] := by rw [hw0]; exact Box.made _ _ _
  have hnam0 := hm.named.alloc (.cells #[.pointer (some ⟨sb, 0, none⟩)] 48)
  rw [← hw0] at hnam0
  have e1 := hnam0.cell 0
  have e2 := hcap0.cell 0
  have e3 := hbox0.cell 1
  simp at e1 e2 e3
  obtain ⟨D, hown, hism, hat⟩ := h.map
  have hown0 : w0.ownsMap Tryd.prog 9 ptrElem mb (pre ++ e0 :: post).length D := by rw [hw0]; exact hown.alloc _
  have hkey := WideMaps.keyOf_string_mk (P := Tryd.prog) Tryd.underlying9 (s := e0.name) (by unfold maxLen; omega)
  have HOWN0 := Lib.hid hown0
  have HKEY := Lib.hid hkey
  have HW0 := Lib.hid hw0
  have HH := Lib.hid h
  have HM := Lib.hid (And.intro hism hat)
  have HX := Lib.hid (And.intro hbox0 hcap0)
  have HOWN := Lib.hid hown
  clear h hm hbox0 hcap0 hnam0 hown hown0 hkey hism hat
  subst hw0
  go_enter Tryd.func36, Tryd.ntmps36
  go_wp2_with fail
  go_enter Tryd.func48, Tryd.ntmps48
  go_wp2_with (at_delete; refine wpList_delete_own _ rfl _ _ 64 9 rfl 69 keyed Tryd.underlying64 ptrElem mb (pre ++ e0 :: post).length D rfl HOWN0.out (.string e0.name) _ rfl HKEY.out ?_; intro w1 hown1 hturn1; have HOWN1 := Lib.hid hown1; have hg1 := hturn1.grown; have HG1 := Lib.hid hg1; clear hown1 hturn1 hg1)
  have hmlt : mb < w.heap.size := HH.out.map.lt
  have hpb1 : Box w1 w.heap.size 48 #[.pointer (some ⟨sb, 0, none⟩)] := HX.out.2.grown HG1.out (fun e => by injection e with e; omega)
  have hmap0 : MapIs (w.alloc (.cells #[.pointer (some ⟨sb, 0, none⟩)] 48)) mb (pre ++ e0 :: post) := HH.out.map.alloc _
  have hbox1 := HX.out.1.grown HG1.out (fun e => hmap0.apart HX.out.1 (by injection e))
  have hown1 := (HH.out.own.alloc (.cells #[.pointer (some ⟨sb, 0, none⟩)] 48)).kept HG1.out (.inr (hmap0.own_apart (HH.out.own.alloc _)))
  have hmet1 : ∀ e ∈ pre ++ e0 :: post, MetIs w1 B e := fun e he => by
    have hm := (HH.out.met e he).alloc (.cells #[.pointer (some ⟨sb, 0, none⟩)] 48)
    exact hm.kept HG1.out (fun e => hmap0.apart hm.named (by injection e)) (fun e => hmap0.apart hm.held (by injection e))
  have hkeep1 : ∀ (k : Nat) (t : TypeId) (cs : Array Value), Box w k t cs → Box w1 k t cs := fun k t cs hk => by
    have h := hk.alloc (.cells #[.pointer (some ⟨sb, 0, none⟩)] 48)
    exact h.grown HG1.out (fun e => hmap0.apart h (by injection e))
  have HKEEP1 := Lib.hid hkeep1
  have hmap1 : MapIs w1 mb (pre ++ post) := map_without HH.out.names HOWN0.out HM.out.1 HM.out.2 HOWN1.out
  have hbel1 : Below B w w1 := ((Below.refl B w).alloc hB _).grown HG1.out (by simp; omega) (fun k hk => by cases hk; exact HH.out.mlo)
  have HC := Lib.hid (cutRow B sb w.heap.size g cap (pre ++ e0 :: post).length pre post e0 (.map (some mb)) (.bool false) (.slice none 0 0) w1 rfl h20 HH.out.names hpb1 hbox1 hown1 (fun e he => by have := (hmet1 e he).named.cell 0; simpa using this))
  have HO1 := Lib.hid hown1
  have HX1 := Lib.hid hbox1
  have HME := Lib.hid hmet1
  have HMA := Lib.hid hmap1
  have HBE := Lib.hid hbel1
  clear hpb1 hmap0 hbox1 hown1 hmet1 hmap1 hbel1 hkeep1
  refine HC.out.mono ?_
  rintro e w2 ⟨rfl, hw2⟩
  have HW2 := Lib.hid hw2
  clear hw2
  go_wp2
  go_ret
  have hw2 := HW2.out
  obtain ⟨n, hn⟩ : ∃ n, n = (pre ++ e0 :: post).length := ⟨_, rfl⟩
  obtain ⟨i, hi⟩ : ∃ i, i = pre.length := ⟨_, rfl⟩
  have hin : i < n := by rw [hi, hn]; simp
  obtain ⟨xs, hxs⟩ : ∃ xs, xs = (pre ++ e0 :: post).map encM := ⟨_, rfl⟩
  have hO := HO1.out
  rw [← hn, ← hxs] at hO
  rw [← hn, ← hi, ← hxs] at hw2
  have hcut := own_cut (w := w1.drew) hO hin
  simp only [Nat.mul_one, Nat.zero_add] at hcut
  have hglo : B ≤ g := (hO.lt g rfl).1
  have hgb := hO.lt g rfl
  obtain ⟨cur, hgbox⟩ : ∃ cur, Box w1 g 69 cur := by
    rcases hO.2 with ⟨e0, _⟩ | ⟨g', cap', cur, e0, hb, hg, _⟩
    · cases e0
    · have e1 : g = g' := by injection e0 with e1 _ _; injection e1 with e1; injection e1
      subst e1
      exact ⟨cur, hg⟩
  have hboxc : Box (w1.drew.setCells g i (xs.drop (i + 1))) sb 68 #[.slice (some ⟨g, 0, none⟩) n cap, .map (some mb), .bool false, .slice none 0 0] := by
    have h := HX1.out
    rw [← hn] at h
    exact (heap_setCells _ _ w1.drew sb (h.apart hgbox (by decide))).trans h
  have keep : ∀ {k : Nat} {t : TypeId} {cs : Array Value}, Box w1 k t cs → t ≠ 69 → t ≠ 68 → Box w2 k t cs := fun {k t cs} hk h1 h2 => by
    rw [hw2]
    have hk' : Box (w1.drew.setCells g i (xs.drop (i + 1))) k t cs := (heap_setCells _ _ w1.drew k (hk.apart hgbox h1)).trans hk
    exact hk'.aside (p := ⟨sb, 0, none⟩) (hk'.apart hboxc h2) _
  have hnames : ((pre ++ post).map (·.name)).Nodup := by
    have hsub : ((pre ++ post).map (·.name)).Sublist ((pre ++ e0 :: post).map (·.name)) := (List.Sublist.append_left (List.sublist_cons_self e0 post) pre).map _
    exact hsub.nodup HH.out.names
  refine ⟨.slice (some ⟨g, 0, none⟩) (i + (n - (i + 1))) cap, rfl, ⟨?_, ?_, ?_, fun e he => ?_, HH.out.slo, HH.out.mlo, hnames⟩, ?_, fun k t cs hk ht1 ht2 => keep (HKEEP1.out k t cs hk) ht1 ht2⟩
  · rw [hw2]
    have h := hboxc.stored 0 (.slice (some ⟨g, 0, none⟩) (i + (n - (i + 1))) cap)
    simpa using h
  · rw [hw2]
    have hlen : (pre ++ post).length = n - 1 := by rw [hn]; simp
    have hxx : xs.take i ++ xs.drop (i + 1) = (pre ++ post).map encM := by
      rw [hxs, hi, List.map_append, List.map_cons, List.map_append]
      rw [List.take_left' (by simp), show pre.length + 1 = (pre.map encM ++ [encM e0]).length by simp, show List.map encM pre ++ encM e0 :: List.map encM post = (pre.map encM ++ [encM e0]) ++ post.map encM by simp, List.drop_left]
    rw [hlen, ← hxx]
    exact own_stored hcut hboxc (by decide) 0 _
  · rw [hw2]
    refine HMA.out.block ?_
    have hmg : mb ≠ g := fun e => HMA.out.apart (g := g) hgbox e.symm
    have hms : mb ≠ sb := fun e => HMA.out.apart HX1.out e.symm
    exact (Below.heap_setCell _ ⟨sb, 0, none⟩ _ mb hms).trans (heap_setCells _ _ w1.drew mb hmg)
  · have hm := HME.out e (by rcases List.mem_append.1 he with h | h <;> simp [h])
    exact ⟨keep hm.named (by decide) (by decide), keep hm.held (by decide) (by decide), hm.nlo, hm.clo⟩
  · rw [hw2]
    exact (below_setCells hglo _ _ _ _ HBE.out.drew).setCell HH.out.slo _
end Go.Proofs.YtlimibjmccbdlaaDoor
