/-
  (*Set).UnregisterMetric: a metric is taken out of the map and out of the row.
-/
import Derived.Test.YtlimibjmccbdlaaDoorListed
import Derived.Deep.RegionLaw
import Derived.Laws.IdiomCopy
namespace Go.Proofs.YtlimibjmccbdlaaDoor
open Go.ChangeShapes Go.WideShapes Go.ChangeAt Go.RowKit

/-! ### stores of several cells -/
theorem box_setCells {g : Nat} {t : TypeId} : ∀ (vs : List Value) (o : Nat) (w : World) (cur : Array Value), Box w g t cur → ∃ cur', Box (w.setCells g o vs) g t cur' ∧ cur'.size = cur.size
  | [], _, _, cur, h => ⟨cur, h, rfl⟩
  | v :: r, o, w, cur, h => by
    obtain ⟨c, h1, h2⟩ := box_setCells r (o + 1) _ _ (h.stored o v)
    exact ⟨c, h1, by rw [h2]; simp⟩
theorem heap_setCells {g : Nat} : ∀ (vs : List Value) (o : Nat) (w : World) (k : Nat), k ≠ g → (w.setCells g o vs).heap[k]? = w.heap[k]?
  | [], _, _, _, _ => rfl
  | v :: r, o, w, k, h => (heap_setCells r (o + 1) _ k h).trans (Below.heap_setCell w ⟨g, o, none⟩ v k h)
theorem below_setCells {B g : Nat} (hg : B ≤ g) : ∀ (vs : List Value) (o : Nat) (a w : World), Below B a w → Below B a (w.setCells g o vs)
  | [], _, _, _, h => h
  | v :: r, o, a, _, h => below_setCells hg r (o + 1) a _ (h.setCell (p := ⟨g, o, none⟩) hg v)

/-- Row of the call's own without its i-th element, moved together. -/
theorem own_cut {w : World} {B : Nat} {e : TypeId} {g n cap i : Nat} {xs : List Value} (h : w.ownsRow B e 1 (.slice (some ⟨g, 0, none⟩) n cap) n xs) (hi : i < n) :
    (w.setCells g (0 + i * 1) (xs.drop (i + 1))).ownsRow B e 1 (.slice (some ⟨g, 0, none⟩) (i + (n - (i + 1))) cap) (n - 1) (xs.take i ++ xs.drop (i + 1)) := by
  have hx : xs.length = n := by simpa using h.1
  rcases h.2 with ⟨e0, _⟩ | ⟨g', cap', cur, e0, hb, hg, hn, hm, hs, ht⟩
  · cases e0
  · have e1 : g = g' := by injection e0 with e1 _ _; injection e1 with e1; injection e1
    have e3 : cap = cap' := by injection e0
    subst e1 e3
    have hbox : Box w g e cur := hg
    obtain ⟨cur', hbox', hsz'⟩ := box_setCells (xs.drop (i + 1)) (0 + i * 1) w cur hbox
    have hcs : n ≤ cur.size := by
      have h1 := congrArg List.length ht
      rw [List.length_take, hx, Array.length_toList] at h1
      omega
    refine ⟨by simp; omega, .inr ⟨g, cap, cur', by rw [show i + (n - (i + 1)) = n - 1 by omega], hb, hbox', by omega, hm, by rw [hsz']; exact hs, ?_⟩⟩
    have hold : ∀ j, j < n → cur[j]? = xs[j]? := fun j hj => by
      rw [← ht, List.getElem?_take, if_pos (by omega), Array.getElem?_toList]
    apply List.ext_getElem?
    intro j
    rw [List.getElem?_take, Array.getElem?_toList]
    by_cases hj : j < n - 1
    · rw [if_pos (by omega), ← hbox'.cell j]
      by_cases hji : j < i
      · rw [World.cell?_setCells_out g _ _ _ _ (fun _ _ => .inl (by show j < 0 + i * 1; omega)), hbox.cell j, hold j (by omega), List.getElem?_append_left (by simp; omega), List.getElem?_take, if_pos hji]
      · have hin := World.cell?_setCells_in g (xs.drop (i + 1)) (0 + i * 1) w (fun q hq => by
          have hq' : q < n - (i + 1) := by simpa [hx] using hq
          rw [hbox.cell, Array.getElem?_eq_getElem (by omega)]
          rfl) (j - i) (by simp; omega)
        rw [show 0 + i * 1 + (j - i) = j by omega] at hin
        rw [hin, List.getElem?_append_right (by simp; omega), List.length_take, show min i xs.length = i by omega, List.getElem?_eq_getElem (by simp; omega)]
    · rw [if_neg (by omega), List.getElem?_eq_none (by simp; omega)]

/-! ### the map without one name -/
theorem own_tight {w : World} {mb n m : Nat} {D : DataW Nat} (h : w.ownsMap Tryd.prog 9 ptrElem mb n D) (hm : Maps.size D ≤ m) : w.ownsMap Tryd.prog 9 ptrElem mb m D := by
  obtain ⟨es, clock, hb, F, _, rfl⟩ := h
  refine ⟨es, clock, hb, F, ?_, rfl⟩
  have := hm
  simp only [Maps.size, length_read] at this
  exact this
theorem look_without {pre post : List Met} {e0 : Met} (hn : ((pre ++ e0 :: post).map (·.name)).Nodup) (l : List UInt8) :
    look (pre ++ post) l = if e0.name.data.toList = l then none else look (pre ++ e0 :: post) l := by
  rw [List.map_append, List.map_cons, List.nodup_append, List.nodup_cons] at hn
  obtain ⟨_, ⟨hn1, _⟩, hn2⟩ := hn
  unfold look
  by_cases hl : e0.name.data.toList = l
  · rw [if_pos hl, List.find?_eq_none]
    intro e he
    simp only [beq_iff_eq]
    intro hel
    have hee : e.name = e0.name := ba_ext (hel.trans hl.symm)
    rcases List.mem_append.1 he with he | he
    · exact hn2 _ (List.mem_map.2 ⟨e, he, rfl⟩) _ (by simp) hee
    · exact hn1 (List.mem_map.2 ⟨e, he, hee⟩)
  · rw [if_neg hl, List.find?_append, List.find?_append, List.find?_cons_of_neg (by simpa using hl)]
theorem map_without {w w' : World} {mb : Nat} {pre post : List Met} {e0 : Met} (hn : ((pre ++ e0 :: post).map (·.name)).Nodup) {D : DataW Nat} (hown : w.ownsMap Tryd.prog 9 ptrElem mb (pre ++ e0 :: post).length D) (hm : Maps.IsMap D)
    (hat : ∀ (l : List UInt8) (z : DataW Nat), D.atKey (.string l) z = match look (pre ++ e0 :: post) l with | some e => .held e.nb | none => z)
    (hown' : w'.ownsMap Tryd.prog 9 ptrElem mb (pre ++ e0 :: post).length (D.del (.string e0.name.data.toList))) : MapIs w' mb (pre ++ post) := by
  have hlook : look (pre ++ e0 :: post) e0.name.data.toList = some e0 := look_mem hn (by simp)
  have hhas : Maps.has D (.string e0.name.data.toList) = true := Maps.has_true_of_atKey (y := .held e0.nb) (fun z => by rw [hat, hlook])
  have hsz := Maps.size_del (k := .string e0.name.data.toList) (hown.tidy keyed)
  rw [hhas, if_pos rfl] at hsz
  have hle := hown.size_le
  refine ⟨D.del (.string e0.name.data.toList), own_tight hown' (by simp at hle ⊢; omega), hm.del _, fun l z => ?_⟩
  rw [look_without hn]
  by_cases hl : e0.name.data.toList = l
  · rw [if_pos hl, ← hl]
    exact Maps.atKey_del_same z
  · rw [if_neg hl, Maps.atKey_del_other (fun h => hl (Lit.string.inj h).symm), hat]
    cases look (pre ++ e0 :: post) l <;> rfl

theorem SetAt.hit_ok {w : World} {B sb mb : Nat} {sv : Value} {es : List Met} (h : SetAt w B sb mb sv es) (e0 : Met) (he : e0 ∈ es) (hs : e0.name.size ≤ maxLen) :
    (Instr.lookup 64 (.map (some mb)) (.string e0.name) true).run Tryd.prog w = .ok (.tuple #[.pointer (some ⟨e0.nb, 0, none⟩), .bool true]) w := by
  have hl := look_mem h.names he
  obtain ⟨D, hown, _, hat⟩ := h.map
  obtain ⟨v, ps, hrun, hv⟩ := hown.look_ok (t := 64) keyed Tryd.underlying64 (zeroPtr w) ptrElem_nil (WideMaps.keyOf_string_mk Tryd.underlying9 hs)
  have hh : Maps.has D (.string e0.name.data.toList) = true := Maps.has_true_of_atKey (y := .held e0.nb) (fun z => by rw [hat, hl])
  rw [hat, hl] at hv
  rw [hrun, ptrElem_held hv, hh]
theorem SetAt.miss_ok {w : World} {B sb mb : Nat} {sv : Value} {es : List Met} (h : SetAt w B sb mb sv es) (s : ByteArray) (hno : s ∉ es.map (·.name)) (hs : s.size ≤ maxLen) :
    (Instr.lookup 64 (.map (some mb)) (.string s) true).run Tryd.prog w = .ok (.tuple #[.pointer none, .bool false]) w := by
  have hl := look_absent hno
  obtain ⟨D, hown, _, hat⟩ := h.map
  obtain ⟨v, ps, hrun, hv⟩ := hown.look_ok (t := 64) keyed Tryd.underlying64 (zeroPtr w) ptrElem_nil (WideMaps.keyOf_string_mk Tryd.underlying9 hs)
  have hh : Maps.has D (.string s.data.toList) = false := Maps.has_false_of_atKey (fun z => by rw [hat, hl])
  rw [hat, hl] at hv
  rw [hrun, ptrElem_none hv, hh]

/-- A name that the set has not. -/
theorem unregMiss (B sb mb : Nat) (sv : Value) (es : List Met) (s : ByteArray) (w : World) (h : SetAt w B sb mb sv es) (hno : s ∉ es.map (·.name)) (hs : s.size ≤ 1000) :
    Calls Tryd.prog 36 #[.pointer (some ⟨sb, 0, none⟩), .string s] w fun e w' => e = .returned (.bool false) ∧ w = w' := by
  have hrun := h.miss_ok s hno (by unfold maxLen; omega)
  have c1 := h.box.cell 1
  simp at c1
  clear h hno hs
  go_enter Tryd.func36, Tryd.ntmps36
  go_wp2
  go_ret
  exact ⟨rfl, rfl⟩

set_option maxRecDepth 1000000 in
set_option maxHeartbeats 4000000 in
/-- The closure that takes a name out of the row. -/
theorem cutRow (B sb pb g cap n : Nat) (pre post : List Met) (e0 : Met) (mv a b : Value) (w : World) (hn : (pre ++ e0 :: post).length = n) (h20 : n ≤ 20) (hnd : ((pre ++ e0 :: post).map (·.name)).Nodup)
    (hpb : Box w pb 48 #[.pointer (some ⟨sb, 0, none⟩)]) (hbox : Box w sb 68 #[.slice (some ⟨g, 0, none⟩) n cap, mv, a, b])
    (hown : w.ownsRow B 69 1 (.slice (some ⟨g, 0, none⟩) n cap) n ((pre ++ e0 :: post).map encM))
    (hmet : ∀ e ∈ pre ++ e0 :: post, w.cell? ⟨e.nb, 0, none⟩ = some (.string e.name)) :
    Calls Tryd.prog 74 #[.string e0.name, .pointer (some ⟨pb, 0, none⟩)] w fun e w' => e = .returned (.tuple #[]) ∧
      w' = (w.drew.setCells g pre.length (((pre ++ e0 :: post).map encM).drop (pre.length + 1))).setCell ⟨sb, 0, none⟩ (.slice (some ⟨g, 0, none⟩) (pre.length + (n - (pre.length + 1))) cap) := by
  obtain ⟨i0, hi0, hz0, hz1, hz2⟩ := info_parts infoPtr
  obtain ⟨i, hi⟩ : ∃ i, i = pre.length := ⟨_, rfl⟩
  have hin : i < n := by rw [hi, ← hn]; simp
  obtain ⟨news, hnews0⟩ : ∃ news, news = ((pre ++ e0 :: post).map encM).drop (i + 1) := ⟨_, rfl⟩
  rw [← hi, ← hnews0]
  have hnl : news.length = n - (i + 1) := by rw [hnews0, List.length_drop, List.length_map, hn]
  obtain ⟨cur, hgb, hncap, hcm, hcs⟩ : ∃ cur, Box w g 69 cur ∧ n ≤ cap ∧ cap ≤ 9223372036854775807 ∧ cur.size = cap := by
    rcases hown.2 with ⟨e0, _⟩ | ⟨g', cap', cur, e0, hb, hg, hnc, hm, hs, ht⟩
    · cases e0
    · have e1 : g = g' := by injection e0 with e1 _ _; injection e1 with e1; injection e1
      have e3 : cap = cap' := by injection e0
      subst e1 e3
      exact ⟨cur, hg, by omega, hm, by simpa using hs⟩
  have hcells : ∀ j u, ((pre ++ e0 :: post).map encM)[j]? = some u → w.cell? ⟨g, j, none⟩ = some u := fun j u hu => by
    have := hown.cells (g := g) rfl j u hu
    rwa [Lib.add_plain, Nat.zero_add] at this
  obtain ⟨A, hA, hnews⟩ : ∃ A : Addr, (if cap = i + 1 then some (⟨g, 0, none⟩ : Addr) else some ⟨g, i + 1, none⟩) = some A ∧ Hid (∀ j u, news[j]? = some u → w.drew.cell? (A.add j) = some u) := by
    by_cases h : cap = i + 1
    · refine ⟨⟨g, 0, none⟩, by simp [h], fun j u hu => ?_⟩
      have h0 : news.length = 0 := by omega
      rw [List.length_eq_zero_iff.1 h0] at hu
      simp at hu
    · refine ⟨⟨g, i + 1, none⟩, by simp [h], fun j u hu => ?_⟩
      rw [hnews0, List.getElem?_drop] at hu
      rw [Lib.add_plain]
      exact hcells (i + 1 + j) u hu
  have s1 : Hid (news.length = (n - (i + 1)) * 1) := Lib.hid (by omega)
  have s2 : Hid (∀ u ∈ news, u.oneCell' = true) := Lib.hid (by
    intro u hu
    rw [hnews0] at hu
    obtain ⟨x, _, rfl⟩ := List.mem_map.1 (List.mem_of_mem_drop hu)
    rfl)
  have s3 : Hid (∀ j, j < news.length → (w.drew.cell? ⟨g, 0 + i * 1 + j, none⟩).isSome = true ∧ w.drew.frozen? ⟨g, 0 + i * 1 + j, none⟩ = false) := Lib.hid (by
    intro j hj
    refine ⟨?_, hgb.free _⟩
    show (w.cell? _).isSome = true
    rw [hgb.cell, Array.getElem?_eq_getElem (by omega)]
    rfl)
  have hic : i ≤ cap := by omega
  have hwr : IntKind.i64.wrap ((i : Int) + 1) = (i : Int) + 1 := by rw [IntKind.wrap_i64]; omega
  have hp0 : (0 : Int) ≤ (i : Int) + 1 := by omega
  have hp1 : (i : Int) + 1 ≤ (n : Int) := by omega
  have hp2 : ((i : Int) + 1).toNat = i + 1 := by omega
  have hgs : sb ≠ g := hbox.apart hgb (by decide)
  have hgp : pb ≠ g := hpb.apart hgb (by decide)
  have hbox2 : Box (w.drew.setCells g (0 + i * 1) news) sb 68 #[.slice (some ⟨g, 0, none⟩) n cap, mv, a, b] := (heap_setCells news _ w.drew sb hgs).trans hbox
  have k0 := hbox2.cell 0
  have k1 := hbox2.free 0
  have hpb2 : Box (w.drew.setCells g (0 + i * 1) news) pb 48 #[.pointer (some ⟨sb, 0, none⟩)] := (heap_setCells news _ w.drew pb hgp).trans hpb
  have k2 := hpb2.cell 0
  have b0 := hbox.cell 0
  have p0 := hpb.cell 0
  simp at k0 b0 p0 k1 k2
  have HND := Lib.hid hnd
  have HMET := Lib.hid hmet
  have HCELLS := Lib.hid hcells
  have HI := Lib.hid hi
  have HN := Lib.hid hn
  clear hnd hmet hcells hi hn hown hgb hcs hnews0 hbox2 hbox hpb hpb2
  go_enter Tryd.func74, Tryd.ntmps74
  go_wp2
  go_loop [10] (fun v => ∃ k : Nat, k ≤ i ∧ v = .int .i64 k) (fun v => n - (intOf v).toNat)
  case atStart => exact ⟨0, Nat.zero_le _, rfl⟩
  case round =>
    obtain ⟨k, hk, rfl⟩ := hrel
    have hkn : k < n := by omega
    have hkl : k < (pre ++ e0 :: post).length := by rw [HN.out]; exact hkn
    obtain ⟨ek, hek⟩ : ∃ ek, ek = (pre ++ e0 :: post)[k] := ⟨_, rfl⟩
    have d0 : w.cell? ⟨g, k, none⟩ = some (.pointer (some ⟨ek.nb, 0, none⟩)) := HCELLS.out k _ (by rw [List.getElem?_map, List.getElem?_eq_getElem hkl, ← hek]; rfl)
    have d1 := HMET.out ek (by rw [hek]; exact List.getElem_mem _)
    by_cases hki : k = i
    · subst hki
      have he : ek = e0 := by
        rw [hek]
        have := HI.out
        subst this
        simp
      subst he
      have HEK := Lib.hid hek
      clear hek
      go_wp2_with fail
      go_region_law (refine step_append_room rfl (.tmp 27) (.tmp 34) 65 rfl 69 i0 1 Tryd.underlying65 hi0 hz1 g 0 k cap (by simp [Act.eval, Act.put]) A (n - (k + 1)) (cap - (k + 1)) news (by simp [Act.eval, Act.put]) s1.out hnews.out s2.out (by omega) s3.out ?_)
      all_goals go_wp2
      all_goals refine bodyPost_ret (results_none rfl _ _ _) rfl ?_
      all_goals exact ⟨rfl, rfl⟩
    · have hne : (ek.name.toList == e0.name.toList) = false := by
        refine beq_eq_false_iff_ne.2 (fun h => ?_)
        rw [ByteArray.toList_eq, ByteArray.toList_eq] at h
        have hnn : ek.name = e0.name := ba_ext h
        have hil : i < (pre ++ e0 :: post).length := by rw [HN.out]; exact hin
        have he0 : (pre ++ e0 :: post)[i] = e0 := by
          have := HI.out
          subst this
          simp
        have hpw := List.pairwise_iff_getElem.1 HND.out k i (by simpa using hkl) (by simpa using hil) (by omega)
        simp only [List.getElem_map] at hpw
        rw [← hek, he0] at hpw
        exact hpw hnn
      have HEK := Lib.hid hek
      clear hek
      go_wp2
      go_round
      case rel => exact ⟨k + 1, by omega, by go_num⟩
      case measure => simp [intOf]; omega
end Go.Proofs.YtlimibjmccbdlaaDoor
