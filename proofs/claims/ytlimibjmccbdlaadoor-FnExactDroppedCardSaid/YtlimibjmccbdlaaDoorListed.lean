/-
  impl.set, (*Set).ListMetricNames, spec.Same.
-/
import Derived.Test.YtlimibjmccbdlaaDoorPlain
import Derived.Maps.RangeWalk
import Derived.OwnWalk
namespace Go.Proofs.YtlimibjmccbdlaaDoor
open Go.ChangeShapes Go.WideShapes Go.ChangeAt Go.RowKit

set_option maxRecDepth 100000 in
set_option maxHeartbeats 2000000 in
/-- impl.set: a set of the names. -/
theorem implSet (names : List ByteArray) (A : Option Addr) (c n : Nat) (w : World) (h1 : names.length = n) (h20 : n ≤ 20) (good : ∀ s ∈ names, GoodName s) (L : Lies w w.heap.size A n (names.map .string)) :
    Calls Tryd.prog 31 #[.slice A n c] w fun e w' => ∃ sb mb sv es, e = .returned (.pointer (some ⟨sb, 0, none⟩)) ∧ SetIs w' w.heap.size sb mb sv es ∧ (∀ x, x ∈ es.map (·.name) ↔ x ∈ names) ∧ es.length ≤ 20 ∧ Below w.heap.size w w' := by
  have HL1 := Lib.hid L
  have HGOOD := Lib.hid good
  have H1 := Lib.hid h1
  clear L good h1
  go_enter Tryd.func31, Tryd.ntmps31
  go_wp2_with fail
  refine (newSet w).mono ?_
  rintro e w1 ⟨sb, mb, rfl, hset, hbel⟩
  have HSET := Lib.hid hset
  have HBEL := Lib.hid hbel
  clear hset hbel
  go_wp2_with fail
  go_loopw [9] (fun i wr => ∃ (k : Nat) (es : List Met) (sv : Value), k ≤ n ∧ i = .int .i64 k ∧ SetIs wr w.heap.size sb mb sv es ∧ (∀ x, x ∈ es.map (·.name) ↔ x ∈ names.take k) ∧ es.length ≤ k ∧ Below w.heap.size w wr) (fun i _ => n - (intOf i).toNat)
  case atStart => exact ⟨0, [], .slice none 0 0, Nat.zero_le _, rfl, HSET.out, by simp, Nat.le_refl _, HBEL.out⟩
  case round =>
    obtain ⟨k, es, sv, hk, rfl, hset, hmem, hel, hbel⟩ := hrel
    have HS := Lib.hid hset
    have HM := Lib.hid hmem
    have HB := Lib.hid hbel
    clear hset hmem hbel
    by_cases hlt : k < n
    · have hk1 : k < names.length := by rw [H1.out]; exact hlt
      obtain ⟨s, hs⟩ : ∃ s, s = names[k] := ⟨_, rfl⟩
      obtain ⟨b1, off1, ha1, hb1, hc1⟩ := HL1.out.2 (by omega)
      subst ha1
      have d1 : wr.cell? ⟨b1, off1 + k, none⟩ = some (.string s) := by
        rw [HB.out.cell (p := ⟨b1, off1 + k, none⟩) (by simpa using hb1)]
        exact hc1 k _ (by rw [List.getElem?_map, List.getElem?_eq_getElem hk1, hs]; rfl)
      have HGS := Lib.hid (HGOOD.out s (by rw [hs]; exact List.getElem_mem _))
      have HTK := Lib.hid (show names.take (k + 1) = names.take k ++ [s] by rw [List.take_succ_eq_append_getElem hk1, hs])
      have HC1 := Lib.hid hc1
      clear hs hc1
      by_cases hin : s ∈ es.map (·.name)
      · obtain ⟨e0, he0, hn0⟩ := List.mem_map.1 hin
        subst hn0
        have HIN := Lib.hid he0
        have HIN2 := Lib.hid hin
        clear hin he0
        go_wp2_with (go_at_call 27; refine (getHit w.heap.size sb mb sv es e0 _ HS.out HIN.out HGS.out.1).mono ?_; rintro e w3 ⟨rfl, rfl⟩)
        go_roundw
        case rel =>
          refine ⟨k + 1, es, sv, by omega, by go_num, HS.out, fun x => ?_, by omega, HB.out⟩
          rw [HTK.out, List.mem_append, HM.out]
          constructor
          · exact .inl
          · rintro (h | h)
            · exact h
            · rw [List.mem_singleton.1 h]
              exact (HM.out _).1 HIN2.out
        case measure => simp [intOf]; omega
      · have HNO := Lib.hid hin
        clear hin
        go_wp2_with (go_at_call 27; refine (getMiss w.heap.size sb mb sv es s _ HS.out HNO.out HGS.out HB.out.size (by omega)).mono ?_; rintro e w3 ⟨nb, cb, sv3, rfl, hset3, hbel3⟩; have HS3 := Lib.hid hset3; have HB3 := Lib.hid hbel3; clear hset3 hbel3)
        go_roundw
        case rel =>
          refine ⟨k + 1, es ++ [⟨nb, cb, s, 0⟩], sv3, by omega, by go_num, HS3.out, fun x => ?_, by simp; omega, HB.out.trans HB3.out⟩
          rw [HTK.out, List.map_append, List.mem_append, List.mem_append, HM.out]
          simp
        case measure => simp [intOf]; omega
    · have hks : k = n := by omega
      subst hks
      go_wp2
      go_ret
      refine ⟨sb, mb, sv, es, rfl, HS.out, fun x => ?_, by omega, HB.out⟩
      rw [HM.out, List.take_of_length_le (by rw [H1.out]; omega)]

/-! ### the names of a set -/
def mkV : Option Nat → Value
  | none => .pointer none
  | some b => .pointer (some ⟨b, 0, none⟩)
theorem ptrElem_inv {v : Value} {y : DataW Nat × List MemPlace} (h : ptrElem v = some y) : ∃ c, v = mkV c := by
  unfold ptrElem at h
  split at h
  · exact ⟨none, rfl⟩
  · exact ⟨some _, rfl⟩
  · cases h
theorem key_inv {key : Value} {kl : Lit} (h : keyOf Tryd.prog 9 key = some kl) : ∃ x : ByteArray, key = .string x := by
  cases key <;> simp [keyOf, Tryd.underlying9, mapKey] at h
  exact ⟨_, rfl⟩
theorem key_of {x : ByteArray} {kl : Lit} (h : keyOf Tryd.prog 9 (.string x) = some kl) : kl = .string x.data.toList := by
  simp [keyOf, Tryd.underlying9, mapKey] at h
  exact h.2.symm
theorem range_own_apart {w : World} {P : Program} {k : TypeId} {R : Value → Option (DataW Nat × List MemPlace)} {b r n : Nat} {D : DataW Nat} {left : Lit → Bool} {cnt : Nat} (h : w.ranges P k R b r n D left cnt)
    {base : Nat} {e : TypeId} {size m : Nat} {v : Value} {xs : List Value} (ho : w.ownsRow base e size v m xs) : v.ownBlock ≠ some r := by
  obtain ⟨es, clock, since, seen, c0, _, _, _, _, hr, _⟩ := h
  rcases ho.2 with ⟨rfl, _⟩ | ⟨g', cap, cur, rfl, _, hh, _⟩
  · simp [Value.ownBlock]
  · intro he
    have : g' = r := by simpa [Value.ownBlock] using he
    subst this
    rw [hr] at hh
    cases hh

/-- What the datum says of a key that has an entry. -/
theorem look_of_has {D : DataW Nat} {es : List Met} (hat : ∀ (l : List UInt8) (z : DataW Nat), D.atKey (.string l) z = match look es l with | some e => .held e.nb | none => z) (l : List UInt8) :
    Maps.has D (.string l) = (look es l).isSome := by
  cases h : look es l with
  | some e => exact Maps.has_true_of_atKey (y := .held e.nb) (fun z => by rw [hat, h])
  | none => exact Maps.has_false_of_atKey (fun z => by rw [hat, h])
theorem look_names (es : List Met) (x : List UInt8) : (look es x).isSome = true ↔ x ∈ es.map (·.name.data.toList) := by
  unfold look
  rw [List.find?_isSome]
  simp
theorem sort_rising {l : List (List UInt8)} (h : l.Nodup) : (l.mergeSort fun x y => decide (x ≤ y)).Pairwise (· < ·) := by
  have tr : ∀ a b c : List UInt8, decide (a ≤ b) = true → decide (b ≤ c) = true → decide (a ≤ c) = true := fun a b c h1 h2 => by simp only [decide_eq_true_eq] at *; exact List.le_trans h1 h2
  have to : ∀ a b : List UInt8, (decide (a ≤ b) || decide (b ≤ a)) = true := fun a b => by simp only [Bool.or_eq_true, decide_eq_true_eq]; exact List.le_total a b
  have h1 := (List.pairwise_mergeSort tr to l)
  have h2 : (l.mergeSort fun x y => decide (x ≤ y)).Nodup := (List.mergeSort_perm l _).nodup_iff.2 h
  refine (h1.and h2).imp ?_
  rintro a b ⟨h3, h4⟩
  rcases List.le_iff_lt_or_eq.1 (of_decide_eq_true h3) with h5 | h5
  · exact h5
  · exact absurd h5 h4
theorem sameKey_str (a b : List UInt8) : (Lit.string a).sameKey (.string b) = (a == b) := rfl
theorem lenMap {w : World} {mb n : Nat} {D : DataW Nat} (h : w.ownsMap Tryd.prog 9 ptrElem mb n D) : ∀ ty, (Builtin.len_ #[64] ty #[.map (some mb)]).run Tryd.prog w = .ok (.int .i64 (Maps.size D)) w :=
  fun ty => h.len Tryd.underlying64 ty

/-- A set of counters as 'SetIs' says it, but that its empty row may be any. -/
structure SetAt (w : World) (B sb mb : Nat) (sv : Value) (es : List Met) : Prop where
  box : Box w sb 68 #[sv, .map (some mb), .bool false, .slice none 0 0]
  own : w.ownsRow B 69 1 sv es.length (es.map encM)
  map : MapIs w mb es
  met : ∀ e ∈ es, MetIs w B e
  slo : B ≤ sb
  mlo : B ≤ mb
  names : (es.map (·.name)).Nodup
theorem SetIs.at {w : World} {B sb mb : Nat} {sv : Value} {es : List Met} (h : SetIs w B sb mb sv es) : SetAt w B sb mb sv es := ⟨h.box, h.own, h.map, h.met, h.slo, h.mlo, h.names⟩

set_option maxRecDepth 100000 in
set_option maxHeartbeats 4000000 in
theorem listNamesAt (B sb mb : Nat) (sv : Value) (es : List Met) (w : World) (hset : SetAt w B sb mb sv es) (h20 : es.length ≤ 20) :
    Calls Tryd.prog 32 #[.pointer (some ⟨sb, 0, none⟩)] w fun e w' => ∃ (A : Option Addr) (k c : Nat) (l : List (List UInt8)), e = .returned (.slice A k c) ∧ l.length = k ∧ k ≤ 20 ∧ l.Pairwise (· < ·) ∧ (∀ x, x ∈ l ↔ x ∈ es.map (·.name.data.toList)) ∧
      w'.ownsRow w.heap.size 9 1 (.slice A k c) k (l.map encStr) ∧ Below w.heap.size w w' := by
  obtain ⟨D, hown, hism, hat⟩ := hset.map
  have hsz : Maps.size D ≤ 20 := Nat.le_trans hown.size_le h20
  have hlen := lenMap hown
  obtain ⟨i0, hi, hz0, hz1, hz2⟩ := info_parts Tryd.infoStr
  have hrest := hset.box.cell 1
  simp at hrest
  have HSET := Lib.hid hset
  have HOWN := Lib.hid hown
  have HAT := Lib.hid hat
  clear hset hown hism hat
  obtain ⟨cnt0, hcnt⟩ : ∃ cnt0, cnt0 = Maps.size D := ⟨_, rfl⟩
  rw [← hcnt] at hsz hlen
  obtain ⟨w1, hmk, hown1, hg1⟩ := run_make_own (P := Tryd.prog) w w.heap.size 28 9 i0 (.string ⟨#[]⟩) 1 Tryd.underlying28 hi hz0 hz1 .i64 .i64 cnt0 (by rw [hz2]; omega) (by unfold maxLen; omega) (Nat.le_refl _)
  have hm1 := HOWN.out.kept hg1 (by simp)
  have hbox1 := HSET.out.box.grown hg1 (by simp)
  have hr1 := hbox1.cell 1
  simp at hr1
  have hbel1 : Below w.heap.size w w1 := (Below.refl _ _).grown hg1 (Nat.le_refl _) (by simp)
  have HM1 := Lib.hid hm1
  have HO1 := Lib.hid hown1
  have HB1 := Lib.hid hbel1
  have HCNT := Lib.hid hcnt
  clear hm1 hown1 hbox1 hbel1 hcnt hg1
  go_enter Tryd.func32, Tryd.ntmps32
  go_wp2_with (at_range; refine wpList_range_own _ rfl _ 64 rfl 9 69 keyed Tryd.underlying64 ptrElem mb es.length D rfl HM1.out ?_; intro w2 hrg2 hg2 hs2; have HRG := Lib.hid hrg2; have HG2 := Lib.hid hg2; clear hrg2 hg2)
  go_frame
  have hbel2 : Below w.heap.size w w2 := HB1.out.grown HG2.out HB1.out.size (by simp)
  have hown2 : w2.ownsRow w.heap.size 9 1 (.slice (some ⟨w.heap.size, 0, none⟩) 0 cnt0) 0 [] := HO1.out.kept HG2.out (by simp [Value.ownBlock])
  have HB2 := Lib.hid hbel2
  have HO2 := Lib.hid hown2
  have hrlo : w.heap.size ≤ w1.heap.size := HB1.out.size
  have hmlt := HOWN.out.lt
  clear hbel2 hown2 hs2
  generalize w1.heap.size = r at HRG hrlo ⊢
  go_loopw [3] (fun v wr => ∃ (out : List (List UInt8)) (A : Addr) (n c : Nat) (left : Lit → Bool) (cnt : Nat), v = .slice (some A) n c ∧ wr.ranges Tryd.prog 9 ptrElem mb r es.length D left cnt ∧ n + cnt ≤ 20 ∧ out.length = n ∧ wr.ownsRow w.heap.size 9 1 (.slice (some A) n c) n (out.map encStr) ∧ out.Nodup ∧ (∀ x, x ∈ out ↔ ((look es x).isSome = true ∧ left (.string x) = false)) ∧ (∀ kl, left kl = true → Maps.has D kl = true) ∧ Below w.heap.size w wr) (fun _ wr => wr.rangeLeft mb r)
  case atStart =>
    refine ⟨[], _, 0, cnt0, Maps.has D, _, rfl, HRG.out, ?_, rfl, HO2.out, List.nodup_nil, fun x => ?_, fun _ h => h, HB2.out⟩
    · rw [← HCNT.out]; omega
    · rw [look_of_has HAT.out]
      constructor
      · intro h; cases h
      · rintro ⟨h1, h2⟩
        rw [h1] at h2
        cases h2
  case round =>
    obtain ⟨out, A, n, c, left, cnt, rfl, hrg, hnc, hol, hown, hnd, hmem, hleft, hbel⟩ := hrel
    have HRG2 := Lib.hid hrg
    have HO := Lib.hid hown
    have HMEM := Lib.hid hmem
    have HLEFT := Lib.hid hleft
    have HND := Lib.hid hnd
    have HB := Lib.hid hbel
    have HOL := Lib.hid hol
    clear hrg hown hmem hleft hnd hbel hol HRG
    go_wp2_with (first
      | (at_next
         refine wpList_next_ranges _ rfl _ rfl 9 keyed ptrElem (fun x : ByteArray => Value.string x) mkV (fun key kl h => key_inv h) (fun v y h => ptrElem_inv h) mb r es.length D left cnt rfl HRG2.out ?done ?more
         case' done => intro hc0 hl0; have HL0 := Lib.hid hl0; clear hl0
         case' more =>
           intro x cv kl y w3 cnt3 hkey hlk hRc hat3 hrg3 hlt3 hg3 hs3 hen
           obtain rfl := key_of hkey
           have hsome := HLEFT.out _ hlk
           rw [look_of_has HAT.out] at hsome
           obtain ⟨e, he⟩ := Option.isSome_iff_exists.1 hsome
           have hy : y.1 = .held e.nb := by
             have h1 := hat3 .nil
             rw [HAT.out, he] at h1
             exact h1.symm
           have hcv : mkV cv = .pointer (some ⟨e.nb, 0, none⟩) := ptrElem_held (ps := y.2) (by rw [hRc, ← hy])
           rw [hcv] at hen ⊢
           have hmet := HSET.out.met e (look_some he).1
           have hb3 : Below w.heap.size w w3 := HB.out.grown hg3 HB.out.size (fun k hk => by cases hk; exact hrlo)
           have hne := hmet.named.below hb3 hmet.named.lt
           have q0 := hne.cell 0
           have q2 := hne.cell 2
           simp at q0 q2
           have hnx : x.data.toList = e.name.data.toList := (look_some he).2.symm
           have HO3 := Lib.hid ((HO.out.kept hg3 (.inr (range_own_apart HRG2.out HO.out))).alloc (.cells #[.string e.name] 9))
           have HRG3 := Lib.hid hrg3
           have HB3 := Lib.hid hb3
           have HX := Lib.hid (And.intro he (And.intro hnx (And.intro hlk hlt3)))
           have hbs3 : w.heap.size ≤ (w3.alloc (.cells #[.string e.name] 9)).heap.size := by have := hb3.size; simp; omega
           have hn20 : n + 1 ≤ 20 := by omega
           clear hkey hlk hRc hat3 hrg3 hg3 hs3 hsome hy hcv hmet hb3 hne he hnx hlt3)
      | (at_builtin; refine wpList_append_own _ rfl _ _ 28 rfl w.heap.size 9 i0 (.string ⟨#[]⟩) 1 16 Tryd.underlying28 hi hz0 hz1 hz2 rfl (by decide) (.slice (some A) n c) n (out.map encStr) rfl HO3.out ⟨w3.heap.size, 0, none⟩ 1 1 [.string e.name] rfl rfl (cell_one_new _ _ _) (by simp [Value.oneCell']) (by unfold maxLen; omega) (by omega) hbs3 ?_; intro v' w4 hown4 hgrow4 _; obtain ⟨g', c', hv'⟩ := own_at hown4 (by omega); rw [hv'] at hown4 ⊢; clear hv'; have HG4 := Lib.hid hgrow4; have HO4 := Lib.hid hown4; clear hgrow4 hown4))
    · have HRG4 := Lib.hid ((HRG3.out.alloc (.cells #[.string e.name] 9)).kept HG4.out (fun hh => by
        have := (HO3.out.lt mb hh.symm).1
        omega) (fun hh => range_own_apart (HRG3.out.alloc (.cells #[.string e.name] 9)) HO3.out hh.symm))
      go_roundw
      case rel =>
        obtain ⟨he, hnx, hlk, hlt3⟩ := HX.out
        refine ⟨out ++ [e.name.data.toList], ⟨g', 0, none⟩, n + 1, c', fun z => left z && !z.sameKey (.string x.data.toList), cnt3, rfl, HRG4.out, by omega, by simp [HOL.out], ?_, ?_, fun y => ?_, fun kl hkl => ?_, ?_⟩
        · have h := HO4.out
          have he : (out ++ [e.name.data.toList]).map encStr = out.map encStr ++ [.string e.name] := by simp [encStr]
          rw [he]
          exact h
        · rw [List.nodup_append]
          refine ⟨HND.out, by simp, fun a ha b hb => ?_⟩
          rw [List.mem_singleton.1 hb]
          intro hab
          subst hab
          have := ((HMEM.out _).1 ha).2
          rw [← hnx, hlk] at this
          cases this
        · show _ ↔ (look es y).isSome = true ∧ (left (.string y) && !(Lit.string y).sameKey (.string x.data.toList)) = false
          rw [List.mem_append, HMEM.out, List.mem_singleton, sameKey_str, ← hnx]
          constructor
          · rintro (⟨h1, h2⟩ | rfl)
            · exact ⟨h1, by rw [h2]; rfl⟩
            · exact ⟨by rw [he]; rfl, by simp⟩
          · rintro ⟨h1, h2⟩
            by_cases hyx : y = x.data.toList
            · exact .inr hyx
            · refine .inl ⟨h1, ?_⟩
              have : (y == x.data.toList) = false := beq_eq_false_iff_ne.2 hyx
              rw [this] at h2
              simpa using h2
        · refine HLEFT.out kl ?_
          have hkl' : (left kl && !kl.sameKey (.string x.data.toList)) = true := hkl
          exact (Bool.and_eq_true_iff.1 hkl').1
        · exact (HB3.out.alloc HB3.out.size _).grown HG4.out hbs3 (fun k hk => (HO3.out.lt k hk).1)
      case measure =>
        rw [HRG4.out.left_eq, HRG2.out.left_eq]
        exact HX.out.2.2.2
    · have hmemAll : ∀ x, x ∈ out ↔ (look es x).isSome = true := fun x => by
        rw [HMEM.out, HL0.out]
        simp
      have HALL := Lib.hid hmemAll
      clear hmemAll
      by_cases hn0 : n = 0
      · have HE := Lib.hid (show out = [] from List.length_eq_zero_iff.1 (by rw [HOL.out, hn0]))
        subst hn0
        refine (Tryd.slices_Sort_string_none _ _ _).mono ?_
        rintro e w5 ⟨rfl, rfl⟩
        go_wp2
        go_ret
        refine ⟨some A, 0, c, [], rfl, rfl, by omega, List.Pairwise.nil, fun x => ?_, ?_, HB.out⟩
        · rw [← look_names, ← HALL.out, HE.out]
        · have h := HO.out
          rw [HE.out] at h
          exact h
      · obtain ⟨g, cp, hv, hg, hglt, hncap, hcm, _, hH⟩ := Lib.holds_of_ownsRow HO.out (by simp)
        injection hv with ha _ hcc
        injection ha with ha
        subst ha hcc
        have hS := Tryd.slices_Sort_string g 0 c out wr hH hglt (by rw [HOL.out]; omega)
        rw [HOL.out] at hS
        refine hS.mono ?_
        rintro e w5 ⟨rfl, q, os, hw5⟩
        obtain ⟨ss, hss⟩ : ∃ ss, ss = out.mergeSort fun x y => decide (x ≤ y) := ⟨_, rfl⟩
        rw [← hss] at hw5
        have hsl : ss.length = n := by rw [hss, List.length_mergeSort, HOL.out]
        have hown5 : w5.ownsRow w.heap.size 9 1 (.slice (some ⟨g, 0, none⟩) n c) n (ss.map encStr) := by
          rw [hw5]
          have h := Lib.ownsRow_putRow (q := q) HO.out hsl (Nat.le_refl n)
          rw [List.take_of_length_le (by omega)] at h
          exact own_growA h os
        have hb5 : Below w.heap.size wr w5 := by
          rw [hw5]
          exact (below_ahead q g _ hg).trans (below_growA os (by have := HB.out.size; simpa [Sort.putRow, Sort.mapBlock, Sort.ahead] using this))
        have hrise : ss.Pairwise (· < ·) := by
          rw [hss]
          exact sort_rising HND.out
        have hmm : ∀ x, x ∈ ss ↔ x ∈ es.map (·.name.data.toList) := fun x => by
          rw [hss, (List.mergeSort_perm _ _).mem_iff, HALL.out, look_names]
        have HO5 := Lib.hid hown5
        have HB5 := Lib.hid (HB.out.trans hb5)
        have HMM := Lib.hid (And.intro hrise hmm)
        clear hw5 hss hown5 hb5 hrise hmm hS hH
        go_wp2
        go_ret
        exact ⟨_, n, c, ss, rfl, hsl, by omega, HMM.out.1, HMM.out.2, HO5.out, HB5.out⟩

theorem listNames (sb mb : Nat) (sv : Value) (es : List Met) (w : World) (h : ∃ B, SetIs w B sb mb sv es) (h20 : es.length ≤ 20) :
    Calls Tryd.prog 32 #[.pointer (some ⟨sb, 0, none⟩)] w fun e w' => ∃ (A : Option Addr) (k c : Nat) (l : List (List UInt8)), e = .returned (.slice A k c) ∧ l.length = k ∧ k ≤ 20 ∧ l.Pairwise (· < ·) ∧ (∀ x, x ∈ l ↔ x ∈ es.map (·.name.data.toList)) ∧
      w'.ownsRow w.heap.size 9 1 (.slice A k c) k (l.map encStr) ∧ Below w.heap.size w w' := by
  obtain ⟨B, hset⟩ := h
  exact listNamesAt B sb mb sv es w hset.at h20

/-- spec.Same at two lists that are one. -/
theorem same_any (A1 A2 : Option Addr) (k c1 c2 : Nat) (l : List (List UInt8)) (w : World) (hl : l.length = k) (h20 : k ≤ 1000) (L1 : Lies w w.heap.size A1 k (l.map encStr)) (L2 : Lies w w.heap.size A2 k (l.map encStr)) :
    Calls Tryd.prog 15 #[.slice A1 k c1, .slice A2 k c2] w fun e w' => e = .returned (.bool true) ∧ Below w.heap.size w w' := by
  have HEQ : Hid (Calls Tryd.prog 30 #[.slice A1 k c1, .slice A2 k c2] w fun e w' => e = .returned (.bool true) ∧ Below w.heap.size w w') := Lib.hid (by
    by_cases h0 : k = 0
    · subst h0
      refine (Tryd.slices_Equal_string_empty A1 A2 c1 0 c2 w (by omega)).mono ?_
      rintro e w' ⟨rfl, rfl⟩
      exact ⟨rfl, Below.refl _ _⟩
    · obtain ⟨b1, o1, rfl, _, hc1⟩ := L1.2 (by omega)
      obtain ⟨b2, o2, rfl, _, hc2⟩ := L2.2 (by omega)
      have hb : ∀ (A : Nat) (o : Nat), (∀ j u, (l.map encStr)[j]? = some u → w.cell? ⟨A, o + j, none⟩ = some u) → ∀ j, j < (l.map fun x => (⟨x.toArray⟩ : ByteArray)).length → w.cell? ⟨A, o + j, none⟩ = some (.string ((l.map fun x => (⟨x.toArray⟩ : ByteArray)).getD j ByteArray.empty)) := by
        intro A o h j hj
        have hj' : j < l.length := by simpa using hj
        refine h j _ ?_
        rw [List.getElem?_map, List.getElem?_eq_getElem hj']
        simp [List.getD_eq_getElem?_getD, List.getElem?_map, List.getElem?_eq_getElem hj', encStr]
      refine (Tryd.slices_Equal_string b1 o1 k c1 b2 o2 k c2 (l.map fun x => ⟨x.toArray⟩) (l.map fun x => ⟨x.toArray⟩) w (by simp; omega) (by simp; omega) (by omega) (by omega) (hb b1 o1 hc1) (hb b2 o2 hc2)).mono ?_
      rintro e w' ⟨rfl, q, rfl⟩
      exact ⟨by simp, ⟨rfl, rfl, rfl, Nat.le_refl _, fun _ _ => rfl⟩⟩)
  clear L1 L2
  go_enter Tryd.func15, Tryd.ntmps15
  go_wp2_with fail
  refine HEQ.out.mono ?_
  rintro e w' ⟨rfl, hb⟩
  have HB := Lib.hid hb
  clear hb
  go_wp2
  go_ret
  exact ⟨rfl, HB.out⟩
end Go.Proofs.YtlimibjmccbdlaaDoor
