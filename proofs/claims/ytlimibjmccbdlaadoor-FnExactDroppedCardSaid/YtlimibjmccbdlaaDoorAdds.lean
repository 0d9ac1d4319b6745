/-
  spec.Adds, spec.Each: the numbers that bytes spell; each name once, in order.
-/
import Derived.Test.YtlimibjmccbdlaaDoorNames
import Derived.Lib.OwnBridge
namespace Go.Proofs.YtlimibjmccbdlaaDoor
open Go.ChangeShapes Go.WideShapes Go.ChangeAt Go.RowKit

set_option maxRecDepth 100000 in
set_option maxHeartbeats 1000000 in
theorem adds_any (a : Option Addr) (len cap : Nat) (zs : List Int) (n : Nat) (w : World) (h : IsRow .u8 w a len cap zs) (hlen : len ≤ 2147483647) (hn : n ≤ 20) :
    Calls Tryd.prog 12 #[.slice a len cap, .int .i64 n] w fun e w' => ∃ (l : List Int) (A : Option Addr) (c : Nat), e = .returned (.slice A n c) ∧ l.length = n ∧ (∀ z ∈ l, 0 ≤ z ∧ z ≤ 255) ∧
      w'.ownsRow w.heap.size 3 1 (.slice A n c) n (l.map (.int .i64)) ∧ Below w.heap.size w w' := by
  obtain ⟨i0, hi, hz0, hz1, hz2⟩ := info_parts Tryd.infoInt
  have HR := Lib.hid h
  clear h
  go_enter Tryd.func12, Tryd.ntmps12
  go_wp2
  go_loopw [5, 9] (fun v i wr => ∃ (k : Nat) (l : List Int) (A : Option Addr) (c : Nat), k ≤ n ∧ l.length = k ∧ i = .int .i64 k ∧ (∀ z ∈ l, 0 ≤ z ∧ z ≤ 255) ∧ v = .slice A k c ∧ wr.ownsRow w.heap.size 3 1 (.slice A k c) k (l.map (.int .i64)) ∧ Below w.heap.size w wr) (fun _ i _ => n - (intOf i).toNat)
  case atStart => exact ⟨0, [], none, 0, by omega, rfl, rfl, by simp, rfl, World.ownsRow_nil _ _ _ _, Below.refl _ _⟩
  case round =>
    obtain ⟨k, l, A, c0, hkn, hll, rfl, hin, rfl, hown, hbel⟩ := hrel
    have HI := Lib.hid hin
    have HO := Lib.hid hown
    have HB := Lib.hid hbel
    have HL := Lib.hid hll
    clear hin hown hbel hll
    by_cases h1 : k < n
    · by_cases h2 : k < len
      · obtain ⟨x, m, hx, hm, hm255, hxb⟩ : ∃ (x : Addr) (m : Nat), a = some x ∧ w.cell? (x.add k) = some (.int .u8 m) ∧ m ≤ 255 ∧ x.block < w.heap.size := by
          have hr := HR.out
          rcases hr with ⟨_, h0, _⟩ | ⟨x, rfl, hc1, _, hz, hcell, hwf⟩
          · omega
          · have hkz : k < zs.length := by omega
            obtain ⟨m, hm, hm2⟩ := wf_u8 (hwf (zs.getD k 0) (by rw [List.getD_eq_getElem?_getD, List.getElem?_eq_getElem hkz]; exact List.getElem_mem _))
            exact ⟨x, m, rfl, by rw [hcell k hkz, hm], hm2, row_lt HR.out (by omega) x rfl⟩
        subst hx
        have hcell : wr.cell? (x.add k) = some (.int .u8 m) := by rw [HB.out.cell (p := x.add k) (by rw [add_block]; exact hxb)]; exact hm
        have HO2 := Lib.hid (HO.out.alloc (.cells #[.int .i64 (m : Int)] 3))
        have hbs : w.heap.size ≤ (wr.alloc (.cells #[.int .i64 (m : Int)] 3)).heap.size := by have := HB.out.size; simp; omega
        go_wp2_with (at_builtin; refine wpList_append_own _ rfl _ _ 30 rfl w.heap.size 3 i0 (.int .i64 0) 1 8 Tryd.underlying30 hi hz0 hz1 hz2 rfl (by decide) (.slice A k c0) k (l.map (.int .i64)) rfl HO2.out ⟨wr.heap.size, 0, none⟩ 1 1 [.int .i64 (m : Int)] rfl rfl (cell_one_new _ _ _) (by simp [Value.oneCell']) (by unfold maxLen; omega) (by omega) hbs ?_; intro v' w1 hown1 hgrow1 _; obtain ⟨A', c', hv'⟩ := own_form hown1; rw [hv'] at hown1 ⊢; clear hv'; have HG := Lib.hid hgrow1; have HO1 := Lib.hid hown1; clear hgrow1 hown1)
        go_roundw
        case rel =>
          refine ⟨k + 1, l ++ [(m : Int)], A', c', by omega, by simp [HL.out], by go_num, ?_, rfl, ?_, ?_⟩
          · intro c hc
            rcases List.mem_append.1 hc with hc | hc
            · exact HI.out c hc
            · rw [List.mem_singleton.1 hc]; omega
          · rw [List.map_append]; exact HO1.out
          · refine Below.grown (HB.out.alloc HB.out.size _) HG.out hbs (fun g hg => ?_)
            exact (HO2.out.lt g hg).1
        case measure => simp [intOf]; omega
      · have HO2 := Lib.hid (HO.out.alloc (.cells #[.int .i64 (k : Int)] 3))
        have hbs : w.heap.size ≤ (wr.alloc (.cells #[.int .i64 (k : Int)] 3)).heap.size := by have := HB.out.size; simp; omega
        go_wp2_with (at_builtin; refine wpList_append_own _ rfl _ _ 30 rfl w.heap.size 3 i0 (.int .i64 0) 1 8 Tryd.underlying30 hi hz0 hz1 hz2 rfl (by decide) (.slice A k c0) k (l.map (.int .i64)) rfl HO2.out ⟨wr.heap.size, 0, none⟩ 1 1 [.int .i64 (k : Int)] rfl rfl (cell_one_new _ _ _) (by simp [Value.oneCell']) (by unfold maxLen; omega) (by omega) hbs ?_; intro v' w1 hown1 hgrow1 _; obtain ⟨A', c', hv'⟩ := own_form hown1; rw [hv'] at hown1 ⊢; clear hv'; have HG := Lib.hid hgrow1; have HO1 := Lib.hid hown1; clear hgrow1 hown1)
        go_roundw
        case rel =>
          refine ⟨k + 1, l ++ [(k : Int)], A', c', by omega, by simp [HL.out], by go_num, ?_, rfl, ?_, ?_⟩
          · intro c hc
            rcases List.mem_append.1 hc with hc | hc
            · exact HI.out c hc
            · rw [List.mem_singleton.1 hc]; omega
          · rw [List.map_append]; exact HO1.out
          · refine Below.grown (HB.out.alloc HB.out.size _) HG.out hbs (fun g hg => ?_)
            exact (HO2.out.lt g hg).1
        case measure => simp [intOf]; omega
    · have hk : k = n := by omega
      subst hk
      go_wp2
      go_ret
      exact ⟨l, A, c0, rfl, HL.out, HI.out, HO.out, HB.out⟩

/-- Each name once, in order. -/
def eachOf (names : List ByteArray) : List (List UInt8) := Lib.compact ((names.map (·.data.toList)).mergeSort fun x y => decide (x ≤ y))

theorem below_ahead {B : Nat} {w : World} (q : Nat) (g : Nat) (d : Array (List UInt8)) (hg : B ≤ g) : Below B w (Sort.putRow encStr (Sort.ahead w q) g 0 d) := Lib.below_putRow (Below.refl B w) hg
theorem below_growA {B : Nat} {w : World} (os : Array Obj) (hB : B ≤ w.heap.size) : Below B w (Sort.grow w os) :=
  ⟨rfl, rfl, rfl, by simp [Sort.grow], fun k hk => by
    show (w.heap ++ os)[k]? = w.heap[k]?
    rw [Array.getElem?_append_left (by omega)]⟩
theorem own_growA {w : World} {base : Nat} {e : TypeId} {v : Value} {n : Nat} {xs : List Value} (h : w.ownsRow base e 1 v n xs) (os : Array Obj) : (Sort.grow w os).ownsRow base e 1 v n xs := by
  have hb := below_growA (w := w) os (Nat.le_refl _)
  refine h.kept (row := none) ⟨hb.os, hb.tape, hb.output, hb.size, fun k hk _ => hb.block k hk⟩ ?_
  cases hv : v.ownBlock <;> simp

set_option maxRecDepth 100000 in
set_option maxHeartbeats 1000000 in
theorem each_any (A : Option Addr) (n c : Nat) (names : List ByteArray) (w : World) (hl : names.length = n) (hn : n ≤ 20) (hnil : n = 0 → A = none) (L : Lies w w.heap.size A n (names.map .string)) :
    Calls Tryd.prog 17 #[.slice A n c] w fun e w' => ∃ (A' : Option Addr) (k c' : Nat), e = .returned (.slice A' k c') ∧ k = (eachOf names).length ∧
      w'.ownsRow w.heap.size 9 1 (.slice A' k c') k ((eachOf names).map encStr) ∧ Below w.heap.size w w' := by
  by_cases h0 : n = 0
  · obtain rfl := hnil h0
    subst h0
    obtain rfl : names = [] := List.length_eq_zero_iff.1 hl
    have he : eachOf [] = [] := by simp [eachOf, Lib.compact, Lib.compactUpTo]
    go_enter Tryd.func17, Tryd.ntmps17
    go_wp2_with (first
      | (go_at_call 33; refine (Tryd.slices_Clone_string_nil _ _ _).mono ?_; rintro e w' ⟨rfl, rfl⟩)
      | (go_at_call 34; refine (Tryd.slices_Sort_string_none _ _ _).mono ?_; rintro e w' ⟨rfl, rfl⟩)
      | (go_at_call 35; refine (Tryd.slices_Compact_string_empty _ _ _).mono ?_; rintro e w' ⟨rfl, rfl⟩))
    go_ret
    exact ⟨none, 0, 0, rfl, by rw [he]; rfl, by rw [he]; exact World.ownsRow_nil _ _ _ _, Below.refl _ _⟩
  · obtain ⟨b, off, rfl, hb, hc⟩ := L.2 (by omega)
    have HCL := Lib.hid (Tryd.slices_Clone_string b off n c names w (by omega) (by omega) (fun j hj => by
      refine hc j _ ?_
      rw [List.getElem?_map, List.getElem?_eq_getElem hj]
      simp [List.getD_eq_getElem?_getD, List.getElem?_eq_getElem hj]))
    obtain ⟨ds, hds⟩ : ∃ ds, ds = names.map (·.data.toList) := ⟨_, rfl⟩
    have hdl : ds.length = n := by rw [hds, List.length_map, hl]
    clear hc L
    go_enter Tryd.func17, Tryd.ntmps17
    go_wp2_with fail
    refine HCL.out.mono ?_
    rintro e w1 ⟨v', rfl, hown, hne, hb1⟩
    have hown1 : w1.ownsRow w.heap.size 9 1 v' n (ds.map encStr) := by
      rw [hds, Lib.map_encStr]
      rw [List.take_of_length_le (by omega)] at hown
      exact hown
    obtain ⟨g, cp, rfl, hg, hglt, hncap, hcm, _, hH⟩ := Lib.holds_of_ownsRow hown1 hne
    have HO1 := Lib.hid hown1
    have HB1 := Lib.hid hb1
    have hS := Tryd.slices_Sort_string g 0 cp ds w1 hH hglt (by omega)
    rw [hdl] at hS
    have HS := Lib.hid hS
    clear hown hne hb1 hown1 hH hS
    go_wp2_with fail
    refine HS.out.mono ?_
    rintro e w2 ⟨rfl, q, os, hw2⟩
    obtain ⟨ss, hss⟩ : ∃ ss, ss = ds.mergeSort fun x y => decide (x ≤ y) := ⟨_, rfl⟩
    have hsl : ss.length = n := by rw [hss, List.length_mergeSort, hdl]
    rw [← hss] at hw2
    have hown2 : w2.ownsRow w.heap.size 9 1 (.slice (some ⟨g, 0, none⟩) n cp) n (ss.map encStr) := by
      rw [hw2]
      have h := Lib.ownsRow_putRow (q := q) HO1.out hsl (Nat.le_refl n)
      rw [List.take_of_length_le (by omega)] at h
      exact own_growA h os
    have hb2 : Below w.heap.size w1 w2 := by
      rw [hw2]
      exact (below_ahead q g _ hg).trans (below_growA os (by have := HB1.out.size; simpa [Sort.putRow, Sort.mapBlock, Sort.ahead] using this))
    obtain ⟨g2, cp2, hv2, hg2, hglt2, hncap2, hcm2, _, hH2⟩ := Lib.holds_of_ownsRow hown2 (by simp)
    have hgg : g = g2 := by injection hv2 with h1 _ _; injection h1 with h1; injection h1
    subst hgg
    have HO2 := Lib.hid hown2
    have HB2 := Lib.hid hb2
    have hC := Tryd.slices_Compact_string g 0 cp ss w2 hH2 (by omega) (by omega)
    rw [hsl] at hC
    have HC := Lib.hid hC
    have HSS := Lib.hid hss
    have HDS := Lib.hid hds
    have HSL := Lib.hid hsl
    clear hown2 hb2 hH2 hC hw2 hss hv2
    go_wp2_with fail
    refine HC.out.mono ?_
    rintro e w3 ⟨rfl, q3, hw3⟩
    have HW3 := Lib.hid hw3
    clear hw3
    go_wp2
    go_ret
    have he : eachOf names = Lib.compact ss := by unfold eachOf; rw [← HDS.out, ← HSS.out]
    have hcl : (Lib.compact ss).length ≤ n := by rw [← HSL.out]; exact Lib.compact_length_le ss
    refine ⟨some ⟨g, 0, none⟩, _, cp, rfl, by rw [he], ?_, ?_⟩
    · rw [HW3.out, he]
      have h := Lib.ownsRow_putRow (q := q3) HO2.out (ys := Lib.compact ss ++ List.replicate (n - (Lib.compact ss).length) []) (by simp; omega) hcl
      rw [List.take_left' rfl] at h
      exact h
    · rw [HW3.out]
      exact (HB1.out.trans HB2.out).trans (below_ahead q3 g _ hg)
end Go.Proofs.YtlimibjmccbdlaaDoor
