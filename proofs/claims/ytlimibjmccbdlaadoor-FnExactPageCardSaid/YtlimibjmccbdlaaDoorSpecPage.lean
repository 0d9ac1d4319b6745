/-
  spec.Page: each name's line, in order.
-/
import Derived.Test.YtlimibjmccbdlaaDoorPlain
namespace Go.Proofs.YtlimibjmccbdlaaDoor
open Go.ChangeShapes Go.WideShapes Go.ChangeAt Go.RowKit

theorem sumFor_snoc : ∀ (ss : List ByteArray) (ns : List Int) (s : ByteArray) (n : Int) (x : ByteArray), ss.length = ns.length → sumFor (ss ++ [s]) (ns ++ [n]) x = sumFor ss ns x + (if s = x then n else 0)
  | [], [], s, n, x, _ => by simp [sumFor]
  | _ :: ss, _ :: ns, s, n, x, h => by
    simp only [List.cons_append, sumFor]
    rw [sumFor_snoc ss ns s n x (by simpa using h)]
    omega
  | [], _ :: _, _, _, _, h => by simp at h
  | _ :: _, [], _, _, _, h => by simp at h
theorem sumFor_step (names : List ByteArray) (adds : List Int) (x : ByteArray) (q : Nat) (h1 : q < names.length) (h2 : q < adds.length) :
    sumFor (names.take (q + 1)) (adds.take (q + 1)) x = sumFor (names.take q) (adds.take q) x + (if names[q] = x then adds[q] else 0) := by
  rw [List.take_succ_eq_append_getElem h1, List.take_succ_eq_append_getElem h2, sumFor_snoc _ _ _ _ _ (by simp; omega)]

set_option maxRecDepth 100000 in
set_option maxHeartbeats 2000000 in
theorem specPage (names : List ByteArray) (adds : List Int) (A1 A2 : Option Addr) (c1 c2 n : Nat) (w : World) (h1 : names.length = n) (h2 : adds.length = n) (h20 : n ≤ 20) (good : ∀ s ∈ names, GoodName s) (hr : ∀ z ∈ adds, 0 ≤ z ∧ z ≤ 255) (hnil : n = 0 → A1 = none)
    (L1 : Lies w w.heap.size A1 n (names.map .string)) (L2 : Lies w w.heap.size A2 n (adds.map (.int .i64))) (hB : 4 ≤ w.heap.size) (hp : Lib.TabIs Tryd.prog w "internal/strconv.uint64pow10" .u64 Lib.pow10Tab) :
    Calls Tryd.prog 14 #[.slice A1 n c1, .slice A2 n c2] w fun e w' => e = .returned (.string ⟨((eachOf names).flatMap (lineS names adds)).toArray⟩) ∧ Below w.heap.size w w' := by
  have HL1 := Lib.hid L1
  have HL2 := Lib.hid L2
  have HTAB := Lib.hid hp
  have HE := Lib.hid (each_any A1 n c1 names w h1 h20 hnil L1)
  have H1 := Lib.hid h1
  have H2 := Lib.hid h2
  have HR := Lib.hid hr
  have HSZ : Hid (∀ x ∈ eachOf names, x.length ≤ 1000) := Lib.hid (fun x hx => by
    obtain ⟨s, hs, rfl⟩ := List.mem_map.1 ((each_mem names x).1 hx)
    have := (good s hs).1
    rwa [Array.length_toList])
  have HEN : Hid ((eachOf names).length ≤ 20) := Lib.hid (by
    unfold eachOf
    refine Nat.le_trans (Lib.compact_length_le _) ?_
    rw [List.length_mergeSort, List.length_map, h1]
    exact h20)
  clear L1 L2 hp h1 h2 hr good hnil
  go_enter Tryd.func14, Tryd.ntmps14
  go_wp2_with fail
  refine HE.out.mono ?_
  rintro e w1 ⟨A', m, c', rfl, hm, hown, hb1⟩
  have HO := Lib.hid (Lies.of_own hown)
  have HB1 := Lib.hid hb1
  have HM := Lib.hid hm
  have hm20 : m ≤ 20 := by rw [hm]; exact HEN.out
  clear hown hb1 hm
  go_wp2
  go_loopw [5, 14] (fun o i wr => ∃ (k : Nat) (b : ByteArray), k ≤ m ∧ i = .int .i64 k ∧ o = .string b ∧ b.data.toList = ((eachOf names).take k).flatMap (lineS names adds) ∧ b.size ≤ 2000 * k ∧ Below w1.heap.size w1 wr) (fun _ i _ => m - (intOf i).toNat)
  case atStart => exact ⟨0, ⟨#[]⟩, Nat.zero_le _, rfl, rfl, rfl, by decide, Below.refl _ _⟩
  case round =>
    obtain ⟨k, b, hk, rfl, rfl, hdat, hbs, hbel⟩ := hrel
    have HD := Lib.hid hdat
    have HB := Lib.hid hbel
    clear hdat hbel
    by_cases hlt : k < m
    · have hke : k < (eachOf names).length := by rw [← HM.out]; exact hlt
      obtain ⟨bk, off, ha, hb, hc⟩ := HO.out.2 (by omega)
      subst ha
      obtain ⟨x, hx⟩ : ∃ x : ByteArray, x = ⟨(eachOf names)[k].toArray⟩ := ⟨_, rfl⟩
      have hxs : x.size ≤ 1000 := by
        rw [hx]
        exact HSZ.out _ (List.getElem_mem hke)
      have d1 : wr.cell? ⟨bk, off + k, none⟩ = some (.string x) := by
        rw [HB.out.cell (p := ⟨bk, off + k, none⟩) hb]
        refine hc k _ ?_
        rw [List.getElem?_map, List.getElem?_eq_getElem hke, hx]
        rfl
      have HX := Lib.hid hx
      have HC := Lib.hid hc
      clear hx hc
      go_wp2
      go_loop [8, 20] (fun s j => ∃ q : Nat, q ≤ n ∧ j = .int .i64 q ∧ s = .int .i64 (sumFor (names.take q) (adds.take q) x)) (fun _ j => n - (intOf j).toNat)
      case atStart => exact ⟨0, Nat.zero_le _, rfl, by simp [sumFor]⟩
      case round =>
        obtain ⟨q, hq, rfl, rfl⟩ := hrel
        by_cases hqn : q < n
        · have hq1 : q < names.length := by rw [H1.out]; exact hqn
          have hq2 : q < adds.length := by rw [H2.out]; exact hqn
          obtain ⟨bn, on, han, hbn, hcn⟩ := HL1.out.2 (by omega)
          obtain ⟨ba, oa, haa, hba, hca⟩ := HL2.out.2 (by omega)
          subst han haa
          obtain ⟨s, hs⟩ : ∃ s, s = names[q] := ⟨_, rfl⟩
          obtain ⟨z, hz⟩ : ∃ z, z = adds[q] := ⟨_, rfl⟩
          have hbw := HB1.out.trans (HB.out.mono HB1.out.size)
          have d2 : wr.cell? ⟨bn, on + q, none⟩ = some (.string s) := by
            rw [hbw.cell (p := ⟨bn, on + q, none⟩) hbn]
            exact hcn q _ (by rw [List.getElem?_map, List.getElem?_eq_getElem hq1, hs]; rfl)
          have d3 : wr.cell? ⟨ba, oa + q, none⟩ = some (.int .i64 z) := by
            rw [hbw.cell (p := ⟨ba, oa + q, none⟩) hba]
            exact hca q _ (by rw [List.getElem?_map, List.getElem?_eq_getElem hq2, hz]; rfl)
          have hzr := HR.out z (by rw [hz]; exact List.getElem_mem hq2)
          have hsr := sumFor_range (names.take q) (adds.take q) x (fun z hz => HR.out z (List.mem_of_mem_take hz))
          have hql : (names.take q).length ≤ 20 := by rw [List.length_take]; omega
          have hst := sumFor_step names adds x q hq1 hq2
          rw [← hs, ← hz] at hst
          by_cases hsx : s = x
          · have hq0 : (s.toList == x.toList) = true := by rw [hsx]; exact beq_self_eq_true _
            rw [if_pos hsx] at hst
            have HST := Lib.hid hst
            have HCN := Lib.hid (And.intro hcn hca)
            clear hs hz hst hcn hca hbw hsx
            go_wp2
            go_round
            case rel => exact ⟨q + 1, by omega, by go_num, by rw [HST.out]⟩
            case measure => simp [intOf]; omega
          · have hq0 : (s.toList == x.toList) = false := beq_eq_false_iff_ne.2 (fun h => hsx (ba_ext (by rw [ByteArray.toList_eq, ByteArray.toList_eq] at h; exact h)))
            rw [if_neg hsx, Int.add_zero] at hst
            have HST := Lib.hid hst
            have HCN := Lib.hid (And.intro hcn hca)
            clear hs hz hst hcn hca hbw hsx
            go_wp2
            go_round
            case rel => exact ⟨q + 1, by omega, by go_num, by rw [HST.out]⟩
            case measure => simp [intOf]; omega
        · have hqe : q = n := by omega
          subst hqe
          have e1 : names.take q = names := List.take_of_length_le (by rw [H1.out]; omega)
          have e2 : adds.take q = adds := List.take_of_length_le (by rw [H2.out]; omega)
          rw [e1, e2]
          clear e1 e2
          have hsr := sumFor_range names adds x HR.out
          rw [H1.out] at hsr
          obtain ⟨t, ht⟩ : ∃ t, t = sumFor names adds x := ⟨_, rfl⟩
          rw [← ht] at hsr ⊢
          have hitoa : Lib.itoa t = Lib.decDigits t.toNat := by unfold Lib.itoa; rw [if_neg (by omega)]
          have hdig : (Lib.decDigits t.toNat).length ≤ 20 := digits_le (w := w) (.inr ⟨by omega, HTAB.out⟩)
          have htab := tabIs_below HTAB.out (HB1.out.trans (HB.out.mono HB1.out.size)) (fun g hg => by
            have e : Tryd.prog.globalNamed "internal/strconv.uint64pow10" = some 0 := by kernel_rfl
            obtain rfl := Option.some.inj (hg.symm.trans e)
            omega)
          obtain ⟨d, hd⟩ : ∃ d : ByteArray, d = ⟨(Lib.decDigits t.toNat).toArray⟩ := ⟨_, rfl⟩
          have hds : d.size ≤ 20 := by rw [hd]; exact hdig
          have HIT : Hid (Calls Tryd.prog 25 #[.int .i64 t] wr fun e w' => e = .returned (.string d) ∧ ∃ k os, w' = Sort.grow (wr.drewN k) os) := Lib.hid (by
            have h := Tryd.strconv_Itoa t (by omega) (by omega) wr htab
            rw [hitoa, ← hd] at h
            exact h)
          have hline : lineS names adds (eachOf names)[k] = (x ++ ⟨#[32]⟩ ++ d ++ ⟨#[10]⟩ : ByteArray).data.toList := by
            have hxd : (eachOf names)[k] = x.data.toList := by rw [HX.out]
            have hxx : (⟨x.data.toList.toArray⟩ : ByteArray) = x := by simp
            unfold lineS
            rw [hxd, hxx, ← ht, hd]
            simp [ByteArray.data_append]
          have HLINE := Lib.hid hline
          clear ht hitoa hdig htab hd hline
          go_wp2_with fail
          refine HIT.out.mono ?_
          rintro e w3 ⟨rfl, q3, os, rfl⟩
          have HB3 := Lib.hid (below_grow wr q3 os)
          generalize Sort.grow (wr.drewN q3) os = w3 at HB3 ⊢
          go_wp2
          go_roundw
          case rel =>
            refine ⟨k + 1, b ++ (x ++ ⟨#[32]⟩ ++ d ++ ⟨#[10]⟩), by omega, by go_num, rfl, ?_, ?_, HB.out.trans (HB3.out.mono HB.out.size)⟩
            · rw [List.take_succ_eq_append_getElem hke, List.flatMap_append, ← HD.out, ByteArray.data_append, Array.toList_append, ← HLINE.out]
              simp
            · simp only [ByteArray.size_append]
              show b.size + (x.size + 1 + d.size + 1) ≤ 2000 * (k + 1)
              omega
          case measure => simp [intOf]; omega
    · have hks : k = m := by omega
      subst hks
      have hfull : (⟨((eachOf names).flatMap (lineS names adds)).toArray⟩ : ByteArray) = b := by
        refine ba_ext ?_
        rw [HD.out, List.take_of_length_le (by rw [HM.out]; omega)]
      have HF := Lib.hid hfull
      clear hfull
      go_wp2
      go_ret
      refine ⟨?_, HB1.out.trans (HB.out.mono HB1.out.size)⟩
      rw [HF.out]
      rfl
end Go.Proofs.YtlimibjmccbdlaaDoor
