/-
  The law FnExactDropped: the law's walk and the card.
-/
import Derived.Test.YtlimibjmccbdlaaDoorLeft
import Derived.Test.YtlimibjmccbdlaaDoorLaid
namespace Go.Proofs.YtlimibjmccbdlaaDoor
open Go.ChangeShapes Go.WideShapes Go.ChangeAt Go.RowKit

theorem IsRow.below {k : IntKind} {w w' : World} {a : Option Addr} {len cap : Nat} {zs : List Int} (h : IsRow k w a len cap zs) (hb : Below w.heap.size w w') : IsRow k w' a len cap zs := by
  rcases h with h | ⟨x, hx, h1, h2, h3, h4, h5⟩
  · exact .inl h
  · refine .inr ⟨x, hx, h1, h2, h3, fun i hi => ?_, h5⟩
    have h := h4 i hi
    have hlt : (x.add i).block < w.heap.size := by
      rcases Nat.lt_or_ge (x.add i).block w.heap.size with hl | hl
      · exact hl
      · rw [World.cell?, Array.getElem?_eq_none hl] at h
        cases h
    rw [hb.cell hlt]
    exact h

set_option maxRecDepth 100000 in
set_option maxHeartbeats 1000000 in
theorem fnExactDropped_walk (a0 : Option Addr) (len0 cap0 : Nat) (z0 : List Int) (a1 : Option Addr) (len1 cap1 : Nat) (z1 : List Int) (w : World) (h0 : IsRow .u8 w a0 len0 cap0 z0) (h1 : IsRow .u8 w a1 len1 cap1 z1) (hB : 4 ≤ w.heap.size) (_hp : Lib.TabIs Tryd.prog w "internal/strconv.uint64pow10" .u64 Lib.pow10Tab) :
    Calls Tryd.prog 6 #[.slice a0 len0 cap0, .slice a1 len1 cap1] w fun e w' => e = .returned (.bool true) ∧ Below w.heap.size w w' := by
  by_cases hbig : 2147483647 < len0
  · have hb : (2147483647 : Int) < len0 := by omega
    clear h0 h1
    go_enter Tryd.func6, Tryd.ntmps6
    go_wp2
    go_ret
    exact ⟨rfl, Below.refl _ _⟩
  by_cases hbig1 : 2147483647 < len1
  · have hb : (2147483647 : Int) < len1 := by omega
    clear h0 h1
    go_enter Tryd.func6, Tryd.ntmps6
    go_wp2
    go_ret
    exact ⟨rfl, Below.refl _ _⟩
  have HN := Lib.hid (names_any a0 len0 cap0 z0 w h0 (by omega))
  have HR1 := Lib.hid h1
  clear h0 h1
  go_enter Tryd.func6, Tryd.ntmps6
  go_wp2_with fail
  refine HN.out.mono ?_
  rintro e w1 ⟨names, A1, n, c1, rfl, hl1, hn20, hgood, hnil, hown1, hb1⟩
  have HL1 := Lib.hid (Lies.of_own hown1)
  have HB1 := Lib.hid hb1
  have HN2 := Lib.hid (names_any a1 len1 cap1 z1 w1 (HR1.out.below hb1) (by omega))
  have HG := Lib.hid hgood
  have HNIL := Lib.hid hnil
  clear hgood hnil hown1 hb1
  go_wp2_with fail
  refine HN2.out.mono ?_
  rintro e w2 ⟨drops, A2, m, c2, rfl, hl2, hm20, hgood2, _, hown2, hb2⟩
  have hL1 := (HL1.out.below hb2 (Nat.le_refl _)).more hb2.size
  have hL2 := Lies.of_own hown2
  have HB2 := Lib.hid (HB1.out.trans (hb2.mono HB1.out.size))
  have HI := Lib.hid (implDropped names drops A1 A2 c1 c2 n m w2 hl1 hn20 HG.out hL1 hl2 hm20 hgood2 hL2)
  have HX := Lib.hid (And.intro hL1 hL2)
  clear hL1 hL2 hown2 hb2 hgood2 HN HN2 HL1
  go_wp2_with fail
  refine HI.out.mono ?_
  rintro e w3 ⟨A3, A4, k3, c3, c4, l, bs, rfl, hl3, hk3, hrise, hmem, hlie3, htr, hlie4, hb3⟩
  have HS := Lib.hid (specLeft names drops A1 A2 c1 c2 n m w3 hl1 hn20 HNIL.out ((HX.out.1.below hb3 (Nat.le_refl _)).more hb3.size) hl2 hm20 ((HX.out.2.below hb3 (Nat.le_refl _)).more hb3.size))
  have H3 := Lib.hid (And.intro hrise (And.intro hmem (And.intro hlie3 (And.intro htr hlie4))))
  have HB3 := Lib.hid (HB2.out.trans (hb3.mono HB2.out.size))
  clear hrise hmem hlie3 htr hlie4 hb3 HI
  go_wp2_with fail
  refine HS.out.mono ?_
  rintro e w4 ⟨A5, A6, k5, c5, c6, l', bs', rfl, hl5, hk5, hrise', hmem', hlie5, htr', hlie6, hb4⟩
  obtain rfl : l' = l := rising_unique hrise' H3.out.1 (fun x => by rw [hmem', H3.out.2.1])
  obtain rfl : k5 = k3 := hl5.symm.trans hl3
  obtain rfl : bs' = bs := htr'.trans H3.out.2.2.2.1.symm
  have hbl : bs'.length = m := by
    have h : bs' = (List.range m).map (truth (names.map (·.data.toList)) (drops.map (·.data.toList))) := htr'
    rw [h]
    simp
  have HS1 := Lib.hid (same_any A3 A5 k5 c3 c5 l' w4 hl5 (by omega) ((H3.out.2.2.1.below hb4 (Nat.le_refl _)).more hb4.size) hlie5)
  have HX4 := Lib.hid (And.intro ((H3.out.2.2.2.2.below hb4 (Nat.le_refl _)).more hb4.size) hlie6)
  have HB4 := Lib.hid (HB3.out.trans (hb4.mono HB3.out.size))
  clear hrise' hmem' hlie5 htr' hlie6 hb4 HS
  go_wp2_with fail
  refine HS1.out.mono ?_
  rintro e w5 ⟨rfl, hb5⟩
  have HS2 := Lib.hid (sameTruths A4 A6 m c4 c6 bs' w5 hbl (by omega) ((HX4.out.1.below hb5 (Nat.le_refl _)).more hb5.size) ((HX4.out.2.below hb5 (Nat.le_refl _)).more hb5.size))
  have HB5 := Lib.hid (HB4.out.trans (hb5.mono HB4.out.size))
  clear hb5
  go_wp2_with fail
  refine HS2.out.mono ?_
  rintro e w6 ⟨rfl, hb6⟩
  have HB6 := Lib.hid (HB5.out.trans (hb6.mono HB5.out.size))
  clear hb6
  have s6 := HB6.out.size
  go_wp2_with fail
  refine (sane_any _ (by omega)).mono ?_
  rintro e w7 ⟨rfl, hb7⟩
  have HB7 := Lib.hid hb7
  clear hb7
  go_wp2
  go_ret
  exact ⟨rfl, HB6.out.trans (HB7.out.mono s6)⟩
set_option maxRecDepth 100000 in
theorem fnExactDropped_contract (H : Type) (enc : TypeId × Value → H) (W : World) (base : Nat) (args : Array Value) (ds gs : List (DataW H)) (before : List MemPlace)
    (hval : ∀ (j : Nat) t v, Tryd.f6.params[j]? = some t → args[j]? = some v → Value.okWide Tryd.prog W .any base t v)
    (hW : DataW.Whole enc Tryd.prog Tryd.f6.params.toList Rows.fnExactDroppedSpec.vars false W args.toList ds gs before) (hL : laidMetH Tryd.prog laidList W) (hsh : W.ShapedOpen Tryd.prog) :
    Calls Tryd.prog 6 args W fun e W' => ∃ v, e = .returned v ∧ Rows.fnExactDroppedSpec.post enc Tryd.prog Tryd.f6 false true false false W args v W' := by
  have hW' := hW
  obtain ⟨p, q, hA0, hV, rfl, hfz, hnd⟩ := hW
  have hA : DataW.TrodAll enc Tryd.prog W 0 (fun _ => true) true Tryd.f6.params.toList args.toList ds p := hA0
  rw [Tryd.params6] at hA hval
  obtain ⟨v0, vs0, d0, ds0, p0, q0, hargs, rfl, rfl, h0, r0⟩ := trodAll_cons hA
  obtain ⟨v1, vs1, d1, ds1, p1, q1, rfl, rfl, rfl, h1, r1⟩ := trodAll_cons r0
  obtain ⟨rfl, rfl, rfl⟩ := trodAll_nil r1
  obtain rfl : args = #[v0, v1] := by cases args; simp_all
  obtain ⟨rfl, rfl⟩ := trodVars_none hV
  obtain ⟨a0, len0, cap0, rfl⟩ := okWide_slice Tryd.underlying27 (hval 0 27 v0 rfl rfl)
  have k0 := h0
  have lt0 : ∀ x ∈ p0, x.block < W.heap.size := by obtain ⟨m, hm⟩ := k0; exact DataW.trod_lt m _ _ _ hm
  obtain ⟨z0, w0⟩ : ∃ zs, IsRow .u8 W a0 len0 cap0 zs := by
    obtain ⟨fuel, hf⟩ := h0
    rcases open_ints Tryd.underlying27 Tryd.underlying5 (by kernel_rfl) hf with ⟨hcs, _⟩ | ⟨x, l, c, zs, hcs, _, hl, hm, hz, _, hcell, hwz⟩
    · simp [Value.cells] at hcs
      obtain ⟨rfl, rfl, rfl⟩ := hcs
      exact ⟨[], .inl ⟨rfl, rfl, rfl, rfl⟩⟩
    · simp [Value.cells] at hcs
      obtain ⟨rfl, rfl, rfl⟩ := hcs
      exact ⟨zs, .inr ⟨_, rfl, hl, hm, by simpa using hz, hcell, hwz⟩⟩
  obtain ⟨a1, len1, cap1, rfl⟩ := okWide_slice Tryd.underlying27 (hval 1 27 v1 rfl rfl)
  have k1 := h1
  have lt1 : ∀ x ∈ p1, x.block < W.heap.size := by obtain ⟨m, hm⟩ := k1; exact DataW.trod_lt m _ _ _ hm
  obtain ⟨z1, w1⟩ : ∃ zs, IsRow .u8 W a1 len1 cap1 zs := by
    obtain ⟨fuel, hf⟩ := h1
    rcases open_ints Tryd.underlying27 Tryd.underlying5 (by kernel_rfl) hf with ⟨hcs, _⟩ | ⟨x, l, c, zs, hcs, _, hl, hm, hz, _, hcell, hwz⟩
    · simp [Value.cells] at hcs
      obtain ⟨rfl, rfl, rfl⟩ := hcs
      exact ⟨[], .inl ⟨rfl, rfl, rfl, rfl⟩⟩
    · simp [Value.cells] at hcs
      obtain ⟨rfl, rfl, rfl⟩ := hcs
      exact ⟨zs, .inr ⟨_, rfl, hl, hm, by simpa using hz, hcell, hwz⟩⟩
  clear hA0
  refine (fnExactDropped_walk a0 len0 cap0 z0 a1 len1 cap1 z1 W w0 w1 (size_of_shaped hsh) (pow_laid hL)).mono fun e W' ⟨he, bel⟩ => ?_
  subst he
  exact ⟨_, rfl, _, _, _, [], _, [], hW', trodAll_mk1 (shut_bool Tryd.underlying4 _), (trodAll_cons_mk (Below.trod card_laidOut (by kernel_rfl) (of_decide_eq_true (by kernel_rfl)) k0 bel lt0) (trodAll_cons_mk (Below.trod card_laidOut (by kernel_rfl) (of_decide_eq_true (by kernel_rfl)) k1 bel lt1) trodAll_mk0)), rfl, bel.frame _, fun h => by cases h⟩
theorem fnExactDropped_laid_met (os : Os) : laidMet Tryd.prog Rows.fnExactDroppedRow.laid ((laidWorld os).forCall (fun _ _ => 0) ⟨#[], #[.slice none 0 0, .slice none 0 0], []⟩).memory :=
  laidMet_of_run' 8 (by kernel_rfl) (by kernel_rfl)
theorem fnExactDropped_reads (os : Os) {H : Type} (enc : TypeId × Value → H) : ∃ places, DataW.whole enc Tryd.prog ((laidWorld os).forCall (fun _ _ => 0) ⟨#[], #[.slice none 0 0, .slice none 0 0], []⟩).memory Tryd.f6.params.toList Rows.fnExactDroppedSpec.vars false #[Value.slice none 0 0, Value.slice none 0 0].toList 8 = some ([.nil, .nil], [], places) :=
  ⟨[], by kernel_rfl⟩
set_option maxRecDepth 100000 in
theorem fnExactDropped_lifted (os : Os) (started : os.Started) (H : Type) (enc : TypeId × Value → H) (F : Stop.Interp) :
    ReturnsInHanded {} Tryd.checked os 6 .any ((OpenSpec.ofChange Rows.fnExactDroppedSpec).preRow enc Tryd.prog Tryd.f6 Rows.fnExactDroppedRow.domain false Rows.fnExactDroppedRow.laid) (((OpenSpec.ofChange Rows.fnExactDroppedSpec).at F).post enc Tryd.prog Tryd.f6 false true false false) := by
  obtain ⟨places, hx⟩ := fnExactDropped_reads os enc
  refine returnsInHanded_of_row (C := Tryd.checked) (s := OpenSpec.ofChange Rows.fnExactDroppedSpec) card_own started (by kernel_rfl) Tryd.func6
    (witness_row_at (enc := enc) (C := Tryd.checked) false (laidWorld os) #[.slice none 0 0, .slice none 0 0] rfl (by kernel_rfl) (by kernel_rfl) (by kernel_rfl)
      (OpenSpec.preRow_of_cond 8 hx (by kernel_rfl) (fun k hk => by cases hk) (by kernel_rfl) (fnExactDropped_laid_met os))) ?_
  intro W base args ds gs before hval hW _ _ _ hL hsh _
  exact fnExactDropped_contract H enc W base args ds gs before hval hW hL hsh
theorem fnExactDropped_said : Rows.FnExactDroppedSaid :=
  OpenClaim.holds_of_cond 6 Tryd.f6 rfl rfl rfl rfl rfl rfl rfl ⟨rfl, rfl, rfl, rfl, rfl⟩ rfl rfl rfl rfl rfl (by kernel_rfl) Tryd.func6 (by kernel_rfl)
    (of_decide_eq_true (by kernel_rfl)) (by unfold Func.isWrapper; first | (rw [if_pos (by decide +kernel)]; kernel_rfl) | (rw [if_neg (by decide +kernel)]; exact ⟨rfl, rfl⟩))
    (fun os started H enc _ F => by rw [OpenClaim.pre_eq_preRow]; exact fnExactDropped_lifted os started H enc F)
theorem fnExactDropped_plain (f : FuncId) (fn : Func) (hf : Tryd.pinned.checked.prog.funcNamed "loop.example/pub-metricpages/laws.FnExactDropped" = some f) (hfn : Tryd.pinned.checked.prog.funcs[f]? = some fn) :
    true = Tryd.pinned.checked.prog.looks [] ∧ ∀ (j : Nat) t, fn.params[j]? = some t → Tryd.pinned.checked.prog.wantsStandIn t = false := by
  obtain rfl : f = 6 := Option.some.inj ((show Tryd.prog.funcNamed "loop.example/pub-metricpages/laws.FnExactDropped" = some 6 by kernel_rfl).symm.trans hf) |>.symm
  obtain rfl : fn = Tryd.f6 := (Option.some.inj (Tryd.func6.symm.trans hfn)).symm
  refine ⟨by kernel_rfl, fun j t ht => ?_⟩
  have hall : (Tryd.f6.params.toList.all fun t => !Tryd.prog.wantsStandIn t) = true := by kernel_rfl
  have hmem : t ∈ Tryd.f6.params.toList := by simpa using Array.mem_of_getElem? ht
  have h : Tryd.prog.wantsStandIn t = false := by simpa using List.all_eq_true.1 hall t hmem
  exact h
/-- The card. -/
theorem fnExactDropped_card : Rows.FnExactDroppedCardSaid :=
  Claim7.holds_tied_plain_at .later [] _ _ _ _ fnExactDropped_said (fun _ h => by cases h) (by kernel_rfl) (fun _ h => by cases h) fnExactDropped_row_tie rfl ⟨rfl, rfl⟩ (by kernel_rfl) rfl fnExactDropped_plain (by kernel_rfl)
#print axioms fnExactDropped_card
end Go.Proofs.YtlimibjmccbdlaaDoor
