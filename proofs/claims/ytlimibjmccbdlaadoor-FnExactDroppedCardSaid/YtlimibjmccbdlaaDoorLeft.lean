/-
  spec.Left, spec.SameTruths.
-/
import Derived.Test.YtlimibjmccbdlaaDoorDropped
namespace Go.Proofs.YtlimibjmccbdlaaDoor
open Go.ChangeShapes Go.WideShapes Go.ChangeAt Go.RowKit

/-- spec.SameTruths at two lists that are one. -/
theorem sameTruths (A1 A2 : Option Addr) (k c1 c2 : Nat) (l : List Bool) (w : World) (hl : l.length = k) (h20 : k ≤ 1000) (L1 : Lies w w.heap.size A1 k (l.map .bool)) (L2 : Lies w w.heap.size A2 k (l.map .bool)) :
    Calls Tryd.prog 20 #[.slice A1 k c1, .slice A2 k c2] w fun e w' => e = .returned (.bool true) ∧ Below w.heap.size w w' := by
  by_cases h0 : k = 0
  · subst h0
    clear L1 L2
    go_enter Tryd.func20, Tryd.ntmps20
    go_wp2_with fail
    go_enter Tryd.func39, Tryd.ntmps39
    go_wp2
    refine wp_loop_rounds 1 ?_
    rw [rounds_succ]
    go_wp2
    go_ret
    exact ⟨rfl, Below.refl _ _⟩
  · obtain ⟨b1, o1, rfl, _, hc1⟩ := L1.2 (by omega)
    obtain ⟨b2, o2, rfl, _, hc2⟩ := L2.2 (by omega)
    have hb : ∀ (A : Nat) (o : Nat), (∀ j u, (l.map Value.bool)[j]? = some u → w.cell? ⟨A, o + j, none⟩ = some u) → ∀ j, j < l.length → w.cell? ⟨A, o + j, none⟩ = some (.bool l[j]!) := by
      intro A o h j hj
      refine h j _ ?_
      rw [List.getElem?_map, List.getElem?_eq_getElem hj, getElem!_pos l j hj]
      rfl
    have hall : ∀ xs : List Bool, Lib.allEq (fun x y => x == y) xs xs = true := by
      intro xs
      induction xs with
      | nil => rfl
      | cons x r ih => simp [Lib.allEq, ih]
    have HE : Hid (Calls Tryd.prog 39 #[.slice (some ⟨b1, o1, none⟩) k c1, .slice (some ⟨b2, o2, none⟩) k c2] w fun e w' => e = .returned (.bool true) ∧ Below w.heap.size w w') := Lib.hid (by
      refine (Tryd.slices_Equal_f39 Value.bool (fun x y => x == y) (NeqAt.bool 4 Tryd.underlying4) b1 o1 k c1 b2 o2 k c2 l l w (by omega) (by omega) (by omega) (by omega) (hb b1 o1 hc1) (hb b2 o2 hc2)).mono ?_
      rintro e w' ⟨rfl, q, rfl⟩
      exact ⟨by rw [hall], ⟨rfl, rfl, rfl, Nat.le_refl _, fun _ _ => rfl⟩⟩)
    clear L1 L2 hc1 hc2 hb hall
    go_enter Tryd.func20, Tryd.ntmps20
    go_wp2_with fail
    refine HE.out.mono ?_
    rintro e w' ⟨rfl, hb⟩
    have HB := Lib.hid hb
    clear hb
    go_wp2
    go_ret
    exact ⟨rfl, HB.out⟩

/-! ### where a text lies in a row; the row without it -/
theorem idx_any (A : Option Addr) (q c : Nat) (L : List (List UInt8)) (s : ByteArray) (w : World) (hq : L.length = q) (h20 : q ≤ 1000) (L1 : Lies w w.heap.size A q (L.map encStr)) :
    ∃ ix : Int, (Calls Tryd.prog 37 #[.slice A q c, .string s] w fun e w' => e = .returned (.int .i64 ix) ∧ w = w') ∧ ((∃ (p : Nat) (h : p < L.length), ix = p ∧ L[p] = s.data.toList) ∨ (s.data.toList ∉ L ∧ ix = -1)) := by
  by_cases h0 : q = 0
  · subst h0
    refine ⟨_, (Tryd.slices_Index_string_empty A c s w).mono (fun e w' h => ⟨h.1, h.2.symm⟩), .inr ⟨?_, rfl⟩⟩
    rw [List.length_eq_zero_iff.1 hq]
    simp
  · obtain ⟨b, o, rfl, _, hc⟩ := L1.2 (by omega)
    obtain ⟨zs, hzs⟩ : ∃ zs, zs = L.map fun x => (⟨x.toArray⟩ : ByteArray) := ⟨_, rfl⟩
    have hzl : zs.length = q := by rw [hzs, List.length_map, hq]
    have hat : ∀ j (h : j < L.length), zs.getD j ByteArray.empty = ⟨L[j].toArray⟩ := fun j h => by
      rw [hzs, List.getD_eq_getElem?_getD, List.getElem?_map, List.getElem?_eq_getElem h]
      rfl
    have hcz : ∀ j, j < zs.length → w.cell? ⟨b, o + j, none⟩ = some (.string (zs.getD j ByteArray.empty)) := fun j hj => by
      have hj' : j < L.length := by omega
      refine hc j _ ?_
      rw [List.getElem?_map, List.getElem?_eq_getElem hj', hat j hj']
      rfl
    have hcall := Tryd.slices_Index_string b o q c zs s w (by omega) (by omega) hcz
    by_cases hin : s.data.toList ∈ L
    · have hex : ∃ p, ∃ h : p < L.length, L[p] = s.data.toList ∧ ∀ j (hj : j < p), L[j]'(by omega) ≠ s.data.toList := by
        have hx := List.mem_iff_getElem.1 hin
        obtain ⟨p, hp, he⟩ := hx
        induction p using Nat.strongRecOn with
        | ind p ih =>
          by_cases hall : ∀ j (hj : j < p), L[j]'(by omega) ≠ s.data.toList
          · exact ⟨p, hp, he, hall⟩
          · have : ∃ j, ∃ hj : j < p, L[j]'(by omega) = s.data.toList := by
              apply Classical.byContradiction
              intro hno
              exact hall (fun j hj e => hno ⟨j, hj, e⟩)
            obtain ⟨j, hj, e⟩ := this
            exact ih j hj (by omega) e
      obtain ⟨p, hp, he, hfirst⟩ := hex
      have hix := Lib.idxOfS_hit zs q p s (by omega) (by omega) (by rw [hat p hp, he]) (fun j hj => by
        rw [hat j (by omega)]
        intro e
        refine hfirst j hj ?_
        rw [← e])
      rw [hix] at hcall
      exact ⟨p, hcall.mono (fun e w' h => ⟨h.1, h.2.symm⟩), .inl ⟨p, hp, rfl, he⟩⟩
    · have hix := Lib.idxOfS_miss zs q s (fun j hj => by
        rw [hat j (by omega)]
        intro e
        refine hin ?_
        rw [← e]
        exact List.getElem_mem (l := L) (by omega))
      rw [hix] at hcall
      exact ⟨-1, hcall.mono (fun e w' h => ⟨h.1, h.2.symm⟩), .inr ⟨hin, rfl⟩⟩

theorem del_any (B q c p : Nat) (A : Option Addr) (L : List (List UInt8)) (w : World) (hq : L.length = q) (h20 : q ≤ 1000) (hp : p < q) (hown : w.ownsRow B 9 1 (.slice A q c) q (L.map encStr)) :
    Calls Tryd.prog 38 #[.slice A q c, .int .i64 p, .int .i64 ((p : Int) + 1)] w fun e w' => e = .returned (.slice A (q - 1) c) ∧ w'.ownsRow B 9 1 (.slice A (q - 1) c) (q - 1) ((L.take p ++ L.drop (p + 1)).map encStr) ∧ Below B w w' ∧
      ∀ (k : Nat) (t : TypeId) (cs : Array Value), Box w k t cs → t ≠ 9 → Box w' k t cs := by
  obtain ⟨g, cp, hv⟩ := own_at hown (by omega)
  have hA : A = some ⟨g, 0, none⟩ := by injection hv
  subst hA
  clear hv
  obtain ⟨g2, cp2, hv2, hg2, hglt2, hncap2, hcm2, _, hH2⟩ := Lib.holds_of_ownsRow hown (by simp)
  have hgg : g = g2 := by injection hv2 with h1 _ _; injection h1 with h1; injection h1
  have hcc : c = cp2 := by injection hv2
  subst hgg hcc
  have hcall := Tryd.slices_Delete_string g 0 c p (p + 1) L w hH2 (by omega) (by unfold maxLen at hcm2; omega) (by omega) (by omega)
  rw [hq, show q - (p + 1 - p) = q - 1 by omega, show ((p + 1 : Nat) : Int) = (p : Int) + 1 by omega] at hcall
  refine hcall.mono ?_
  rintro e w' ⟨rfl, n, rfl⟩
  have hlen : (L.take p ++ L.drop (p + 1) ++ List.replicate (p + 1 - p) []).length = q := by simp; omega
  have h := Lib.ownsRow_putRow (q := n) hown hlen (show q - 1 ≤ q by omega)
  rw [List.take_left' (by simp; omega)] at h
  refine ⟨rfl, h, below_ahead n g _ hg2, fun k t cs hk ht => ?_⟩
  have hkg : k ≠ g := fun e => by
    subst e
    rcases hown.2 with ⟨e0, _⟩ | ⟨g', cap', cur, e0, hb, hg, _⟩
    · cases e0
    · have e1 : k = g' := by injection e0 with e1 _ _; injection e1 with e1; injection e1
      subst e1
      exact Box.apart hk (show Box w k 9 cur from hg) ht rfl
  show (Sort.putRow encStr (Sort.ahead w n) g 0 _).heap[k]? = _
  simp only [Sort.putRow, Sort.mapBlock, Sort.ahead, Array.getElem?_modify]
  rw [if_neg (fun e => hkg e.symm)]
  exact hk

theorem cut_eq (L : List (List UInt8)) (p : Nat) : L.take p ++ L.drop (p + 1) = L.eraseIdx p := (List.eraseIdx_eq_take_drop_succ L p).symm
theorem cut_mem {L : List (List UInt8)} {p : Nat} (h : L.Pairwise (· < ·)) (hp : p < L.length) (x : List UInt8) : x ∈ L.take p ++ L.drop (p + 1) ↔ x ∈ L ∧ ¬ x = L[p] := by
  have hsplit : L = L.take p ++ L[p] :: L.drop (p + 1) := by rw [List.getElem_cons_drop, List.take_append_drop]
  have hpw := h
  rw [hsplit, List.pairwise_append, List.pairwise_cons] at hpw
  obtain ⟨_, ⟨h2, _⟩, h3⟩ := hpw
  constructor
  · intro hx
    rcases List.mem_append.1 hx with hx | hx
    · refine ⟨List.mem_of_mem_take hx, fun e => ?_⟩
      have := h3 x hx L[p] (List.mem_cons_self ..)
      rw [e] at this
      exact List.lt_irrefl _ this
    · refine ⟨List.mem_of_mem_drop hx, fun e => ?_⟩
      have := h2 x hx
      rw [e] at this
      exact List.lt_irrefl _ this
  · rintro ⟨hx, hne⟩
    rw [hsplit] at hx
    rcases List.mem_append.1 hx with hx | hx
    · exact List.mem_append.2 (.inl hx)
    · rcases List.mem_cons.1 hx with hx | hx
      · exact absurd hx hne
      · exact List.mem_append.2 (.inr hx)
theorem own_keepS {w w' : World} {B n : Nat} {v : Value} {xs : List Value} (h : w.ownsRow B 4 1 v n xs)
    (hk : ∀ (k : Nat) (t : TypeId) (cs : Array Value), Box w k t cs → t ≠ 9 → Box w' k t cs) : w'.ownsRow B 4 1 v n xs := by
  rcases h.2 with ⟨rfl, h0⟩ | ⟨g, cap, cur, rfl, hb, hg, r⟩
  · exact ⟨h.1, .inl ⟨rfl, h0⟩⟩
  · exact ⟨h.1, .inr ⟨g, cap, cur, rfl, hb, hk g _ cur hg (by decide), r⟩⟩

set_option maxRecDepth 100000 in
set_option maxHeartbeats 4000000 in
theorem specLeft (names drops : List ByteArray) (A1 A2 : Option Addr) (c1 c2 n m : Nat) (w : World) (h1 : names.length = n) (h20 : n ≤ 20) (hnil : n = 0 → A1 = none) (L1 : Lies w w.heap.size A1 n (names.map .string))
    (h2 : drops.length = m) (hm20 : m ≤ 20) (L2 : Lies w w.heap.size A2 m (drops.map .string)) :
    Calls Tryd.prog 19 #[.slice A1 n c1, .slice A2 m c2] w fun e w' => ∃ (A3 A4 : Option Addr) (k3 c3 c4 : Nat) (l : List (List UInt8)) (bs : List Bool), e = .returned (.tuple #[.slice A3 k3 c3, .slice A4 m c4]) ∧
      l.length = k3 ∧ k3 ≤ 20 ∧ l.Pairwise (· < ·) ∧ (∀ x, x ∈ l ↔ x ∈ names.map (·.data.toList) ∧ x ∉ drops.map (·.data.toList)) ∧ Lies w' w'.heap.size A3 k3 (l.map encStr) ∧
      Truths (names.map (·.data.toList)) (drops.map (·.data.toList)) m bs ∧ Lies w' w'.heap.size A4 m (bs.map .bool) ∧ Below w.heap.size w w' := by
  obtain ⟨i0, hi, hz0, hz1, hz2⟩ := info_parts Tryd.infoBool
  have HE := Lib.hid (each_any A1 n c1 names w h1 h20 hnil L1)
  have HL2 := Lib.hid L2
  have H2 := Lib.hid h2
  have HEN : Hid ((eachOf names).length ≤ 20) := Lib.hid (by
    unfold eachOf
    refine Nat.le_trans (Lib.compact_length_le _) ?_
    rw [List.length_mergeSort, List.length_map, h1]
    exact h20)
  obtain ⟨N, hN⟩ : ∃ N, N = names.map (·.data.toList) := ⟨_, rfl⟩
  obtain ⟨D, hD⟩ : ∃ D, D = drops.map (·.data.toList) := ⟨_, rfl⟩
  rw [← hN, ← hD]
  have HNN := Lib.hid hN
  have HDD := Lib.hid hD
  clear L1 L2 h2 hN hD hnil
  go_enter Tryd.func19, Tryd.ntmps19
  go_wp2_with fail
  refine HE.out.mono ?_
  rintro e w1 ⟨A', q0, c', rfl, hq0, hown, hb1⟩
  have HO1 := Lib.hid hown
  have HB1 := Lib.hid hb1
  have HQ0 := Lib.hid hq0
  have hq20 : q0 ≤ 20 := by rw [hq0]; exact HEN.out
  clear hown hb1 hq0
  go_wp2
  go_loopw [6, 7, 15] (fun lv v i wr => ∃ (k : Nat) (L : List (List UInt8)) (bs : List Bool) (A1 A : Option Addr) (q c1 c : Nat), k ≤ m ∧ i = .int .i64 k ∧ lv = .slice A1 q c1 ∧ L.length = q ∧ q ≤ 20 ∧ v = .slice A k c ∧ L.Pairwise (· < ·) ∧ (∀ x, x ∈ L ↔ x ∈ N ∧ x ∉ D.take k) ∧
    wr.ownsRow w.heap.size 9 1 (.slice A1 q c1) q (L.map encStr) ∧ Truths N D k bs ∧ wr.ownsRow w.heap.size 4 1 (.slice A k c) k (bs.map .bool) ∧ Below w.heap.size w wr) (fun _ _ i _ => m - (intOf i).toNat)
  case atStart => exact ⟨0, eachOf names, [], A', none, q0, c', 0, Nat.zero_le _, rfl, rfl, HQ0.out.symm, hq20, rfl, each_rising names, fun x => by rw [each_mem, HNN.out]; simp, HO1.out, rfl, World.ownsRow_nil _ _ _ _, HB1.out⟩
  case round =>
    obtain ⟨k, L, bs, A1, A, q, c1, c, hk, rfl, rfl, hlq, hq20, rfl, hrise, hmem, hownL, htr, hown, hbel⟩ := hrel
    have HRISE := Lib.hid hrise
    have HM := Lib.hid hmem
    have HOL := Lib.hid hownL
    have HT := Lib.hid htr
    have HO := Lib.hid hown
    have HB := Lib.hid hbel
    have HLQ := Lib.hid hlq
    clear hrise hmem hownL htr hown hbel HO1 HE hlq
    by_cases hlt : k < m
    · have hk1 : k < drops.length := by rw [H2.out]; exact hlt
      obtain ⟨s, hs⟩ : ∃ s, s = drops[k] := ⟨_, rfl⟩
      obtain ⟨b2, off2, ha2, hb2, hc2⟩ := HL2.out.2 (by omega)
      subst ha2
      have d1 : wr.cell? ⟨b2, off2 + k, none⟩ = some (.string s) := by
        rw [HB.out.cell (p := ⟨b2, off2 + k, none⟩) (by simpa using hb2)]
        exact hc2 k _ (by rw [List.getElem?_map, List.getElem?_eq_getElem hk1, hs]; rfl)
      have hDk : D.getD k [] = s.data.toList := by
        rw [HDD.out, List.getD_eq_getElem?_getD, List.getElem?_map, List.getElem?_eq_getElem hk1, hs]
        rfl
      have hDt : D.take (k + 1) = D.take k ++ [s.data.toList] := by
        have hkD : k < D.length := by rw [HDD.out, List.length_map]; exact hk1
        rw [List.take_succ_eq_append_getElem hkD]
        have : D[k] = s.data.toList := by
          rw [← hDk, List.getD_eq_getElem?_getD, List.getElem?_eq_getElem hkD]
          rfl
        rw [this]
      have htruth : truth N D k = decide (s.data.toList ∈ L) := by
        unfold truth
        rw [hDk]
        exact decide_eq_decide.2 (HM.out _).symm
      have HDT := Lib.hid hDt
      have HTR := Lib.hid htruth
      have HC2 := Lib.hid hc2
      clear hs hDk hDt htruth hc2
      obtain ⟨ix, hcall, hix⟩ := idx_any A1 q c1 L s wr HLQ.out (by omega) (Lies.of_own HOL.out)
      have HIX := Lib.hid hcall
      clear hcall
      rcases hix with ⟨p, hp, hixp, hpe⟩ | ⟨hno, hixm⟩
      · subst hixp
        have hpq : p < q := by rw [← HLQ.out]; exact hp
        have HPE := Lib.hid hpe
        have hge : (0 : Int) ≤ p := by omega
        have hbs3 : w.heap.size ≤ (wr.alloc (.cells #[.bool true] 4)).heap.size := by have := HB.out.size; simp; omega
        have HO3 := Lib.hid (HO.out.alloc (.cells #[.bool true] 4))
        clear hpe
        go_wp2_with (first
          | (go_at_call 37; refine HIX.out.mono ?_; rintro e w' ⟨rfl, rfl⟩)
          | (at_builtin; refine wpList_append_own _ rfl _ _ 37 rfl w.heap.size 4 i0 (.bool false) 1 1 Tryd.underlying37 hi hz0 hz1 hz2 rfl (by decide) (.slice A k c) k (bs.map .bool) rfl HO3.out ⟨wr.heap.size, 0, none⟩ 1 1 [.bool true] rfl rfl (cell_one_new _ _ _) (by simp [Value.oneCell']) (by unfold maxLen; omega) (by omega) hbs3 ?_; intro v' w4 hown4 hgrow4 _; obtain ⟨A', c', hv'⟩ := own_form hown4; rw [hv'] at hown4 ⊢; clear hv'; have HG4 := Lib.hid hgrow4; have HO4 := Lib.hid hown4; clear hgrow4 hown4)
          | (go_at_call 38; refine (del_any w.heap.size q c1 p A1 L w4 HLQ.out (by omega) hpq ((HOL.out.alloc (.cells #[.bool true] 4)).kept HG4.out (own_two (HOL.out.alloc (.cells #[.bool true] 4)) HO3.out (by decide)))).mono ?_; rintro e w5 ⟨rfl, hown5, hb5, hkeep5⟩; have HO5 := Lib.hid hown5; have HB5 := Lib.hid hb5; have HK5 := Lib.hid hkeep5; clear hown5 hb5 hkeep5))
        go_roundw
        case rel =>
          refine ⟨k + 1, L.take p ++ L.drop (p + 1), bs ++ [true], A1, A', q - 1, c1, c', by omega, by go_num, rfl, by have := HLQ.out; simp; omega, by omega, rfl, ?_, fun x => ?_, HO5.out, ?_, ?_, ?_⟩
          · rw [cut_eq]
            exact HRISE.out.sublist (List.eraseIdx_sublist _ _)
          · rw [cut_mem HRISE.out hp, HPE.out, HM.out x, HDT.out, List.mem_append, List.mem_singleton]
            constructor
            · rintro ⟨⟨h1, h2⟩, h3⟩
              exact ⟨h1, fun h => h.elim h2 h3⟩
            · rintro ⟨h1, h2⟩
              exact ⟨⟨h1, fun h => h2 (.inl h)⟩, fun h => h2 (.inr h)⟩
          · have h := HT.out.snoc
            have hin : s.data.toList ∈ L := by rw [← HPE.out]; exact List.getElem_mem hp
            rw [HTR.out, decide_eq_true hin] at h
            exact h
          · rw [List.map_append]
            exact own_keepS HO4.out HK5.out
          · exact ((HB.out.alloc HB.out.size _).grown HG4.out hbs3 (fun g hg => (HO3.out.lt g hg).1)).trans HB5.out
        case measure => simp [intOf]; omega
      · subst hixm
        have HNO := Lib.hid hno
        have hbs3 : w.heap.size ≤ (wr.alloc (.cells #[.bool false] 4)).heap.size := by have := HB.out.size; simp; omega
        have HO3 := Lib.hid (HO.out.alloc (.cells #[.bool false] 4))
        clear hno
        go_wp2_with (first
          | (go_at_call 37; refine HIX.out.mono ?_; rintro e w' ⟨rfl, rfl⟩)
          | (at_builtin; refine wpList_append_own _ rfl _ _ 37 rfl w.heap.size 4 i0 (.bool false) 1 1 Tryd.underlying37 hi hz0 hz1 hz2 rfl (by decide) (.slice A k c) k (bs.map .bool) rfl HO3.out ⟨wr.heap.size, 0, none⟩ 1 1 [.bool false] rfl rfl (cell_one_new _ _ _) (by simp [Value.oneCell']) (by unfold maxLen; omega) (by omega) hbs3 ?_; intro v' w4 hown4 hgrow4 _; obtain ⟨A', c', hv'⟩ := own_form hown4; rw [hv'] at hown4 ⊢; clear hv'; have HG4 := Lib.hid hgrow4; have HO4 := Lib.hid hown4; clear hgrow4 hown4))
        go_roundw
        case rel =>
          refine ⟨k + 1, L, bs ++ [false], A1, A', q, c1, c', by omega, by go_num, rfl, HLQ.out, hq20, rfl, HRISE.out, fun x => ?_, (HOL.out.alloc (.cells #[.bool false] 4)).kept HG4.out (own_two (HOL.out.alloc (.cells #[.bool false] 4)) HO3.out (by decide)), ?_, ?_, ?_⟩
          · rw [HDT.out, List.mem_append, List.mem_singleton, HM.out x]
            constructor
            · rintro ⟨h1, h2⟩
              refine ⟨h1, fun h => h.elim h2 (fun hx => HNO.out ?_)⟩
              rw [← hx]
              exact (HM.out x).2 ⟨h1, h2⟩
            · rintro ⟨h1, h2⟩
              exact ⟨h1, fun h => h2 (.inl h)⟩
          · have h := HT.out.snoc
            rw [HTR.out, decide_eq_false HNO.out] at h
            exact h
          · rw [List.map_append]; exact HO4.out
          · exact (HB.out.alloc HB.out.size _).grown HG4.out hbs3 (fun g hg => (HO3.out.lt g hg).1)
        case measure => simp [intOf]; omega
    · have hks : k = m := by omega
      subst hks
      have HTK := Lib.hid (show D.take k = D from List.take_of_length_le (by rw [HDD.out, List.length_map, H2.out]; omega))
      go_wp2
      go_ret2
      exact ⟨A1, A, q, c1, c, L, bs, rfl, HLQ.out, hq20, HRISE.out, fun x => by rw [HM.out, HTK.out], Lies.of_own HOL.out, HT.out, Lies.of_own HO.out, HB.out⟩
end Go.Proofs.YtlimibjmccbdlaaDoor
