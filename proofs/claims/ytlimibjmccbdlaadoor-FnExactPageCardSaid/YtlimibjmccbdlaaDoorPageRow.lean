/-
  The law FnExactPage: the law's walk and the card.
-/
import Derived.Test.YtlimibjmccbdlaaDoorSpecPage
import Derived.Test.YtlimibjmccbdlaaDoorLaid
namespace Go.Proofs.YtlimibjmccbdlaaDoor
open Go.ChangeShapes Go.WideShapes Go.ChangeAt Go.RowKit

theorem IsRow.below {k : IntKind} {w w' : World} {a : Option Addr} {len cap : Nat} {zs : List Int} (h : IsRow k w a len cap zs) (hb : Below w.heap.size w w') : IsRow k w' a len cap zs := by
  rcases h with h | ⟨x, hx, h1, h2, h3, h4, h5⟩
  · exact .inl h
  · refine .inr ⟨x, hx, h1, h2, h3, fun i hi => ?_, h5⟩
    have h := h4 i hi
    have hlt : (x.add i).block < w.heap.size := by
      rcases Nat.lt_or_ge (x.add i).block w.heap.size with hl | hl
      · exact hl
      · rw [World.cell?, Array.getElem?_eq_none hl] at h
        cases h
    rw [hb.cell hlt]
    exact h

set_option maxRecDepth 100000 in
theorem fnExactPage_walk (a0 : Option Addr) (len0 cap0 : Nat) (z0 : List Int) (a1 : Option Addr) (len1 cap1 : Nat) (z1 : List Int) (w : World) (h0 : IsRow .u8 w a0 len0 cap0 z0) (h1 : IsRow .u8 w a1 len1 cap1 z1) (hB : 4 ≤ w.heap.size) (hp : Lib.TabIs Tryd.prog w "internal/strconv.uint64pow10" .u64 Lib.pow10Tab) :
    Calls Tryd.prog 4 #[.slice a0 len0 cap0, .slice a1 len1 cap1] w fun e w' => e = .returned (.bool true) ∧ Below w.heap.size w w' := by
  by_cases hbig : 2147483647 < len0
  · have hb : (2147483647 : Int) < len0 := by omega
    clear h0 h1 hp
    go_enter Tryd.func4, Tryd.ntmps4
    go_wp2
    go_ret
    exact ⟨rfl, Below.refl _ _⟩
  by_cases hbig1 : 2147483647 < len1
  · have hb : (2147483647 : Int) < len1 := by omega
    clear h0 h1 hp
    go_enter Tryd.func4, Tryd.ntmps4
    go_wp2
    go_ret
    exact ⟨rfl, Below.refl _ _⟩
  have HN := Lib.hid (names_any a0 len0 cap0 z0 w h0 (by omega))
  have HR1 := Lib.hid h1
  have HP := Lib.hid hp
  clear h0 h1 hp
  go_enter Tryd.func4, Tryd.ntmps4
  go_wp2_with fail
  refine HN.out.mono ?_
  rintro e w1 ⟨names, A1, n, c1, rfl, hl1, hn20, hgood, hnil, hown1, hb1⟩
  have HL1 := Lib.hid (Lies.of_own hown1)
  have HB1 := Lib.hid hb1
  have HA := Lib.hid (adds_any a1 len1 cap1 z1 n w1 (HR1.out.below hb1) (by omega) hn20)
  have HG := Lib.hid hgood
  have HNIL := Lib.hid hnil
  clear hgood hnil hown1 hb1
  go_wp2_with fail
  refine HA.out.mono ?_
  rintro e w2 ⟨adds, A2, c2, rfl, hl2, hadds, hown2, hb2⟩
  have hnp : ∀ g, Tryd.prog.globalNamed "internal/strconv.uint64pow10" = some g → g < 4 := fun g hg => by
    have e : Tryd.prog.globalNamed "internal/strconv.uint64pow10" = some 0 := by kernel_rfl
    obtain rfl := Option.some.inj (hg.symm.trans e)
    omega
  have hbb : Below w.heap.size w w2 := HB1.out.trans (hb2.mono HB1.out.size)
  have hp2 := tabIs_below HP.out hbb (fun g hg => Nat.lt_of_lt_of_le (hnp g hg) hB)
  have hL1 := (HL1.out.below hb2 (Nat.le_refl _)).more hb2.size
  have hL2 := Lies.of_own hown2
  have s2 := hbb.size
  have HI := Lib.hid (page_any names adds A1 A2 c1 c2 n w2 hl1 hl2 hn20 HG.out hL1 hL2 (by omega) (fun p hpm => by
    have h := tally_sum names adds (by omega) hadds p hpm
    have h2 := sumFor_range names adds p.1 hadds
    rw [hl1] at h2
    exact ⟨by omega, .inr ⟨by omega, hp2⟩⟩))
  have HB2 := Lib.hid hbb
  have HL := Lib.hid (page_law names adds (by omega) (by omega) hadds)
  have HX := Lib.hid (And.intro hL1 (And.intro hL2 (And.intro hp2 hadds)))
  clear hbb hp2 hL1 hL2 hown2 hb2 hadds
  go_wp2_with fail
  refine HI.out.mono ?_
  rintro e w3 ⟨l, rfl, hpage, hb3⟩
  obtain rfl := HL.out l hpage
  have s3 := hb3.size
  have HS := Lib.hid (specPage names adds A1 A2 c1 c2 n w3 hl1 hl2 hn20 HG.out HX.out.2.2.2 HNIL.out ((HX.out.1.below hb3 (Nat.le_refl _)).more hb3.size) ((HX.out.2.1.below hb3 (Nat.le_refl _)).more hb3.size) (by omega)
    (tabIs_below HX.out.2.2.1 hb3 (fun g hg => by have := hnp g hg; omega)))
  have HB3 := Lib.hid (HB2.out.trans (hb3.mono HB2.out.size))
  clear hpage hb3
  generalize (⟨((eachOf names).flatMap (lineS names adds)).toArray⟩ : ByteArray) = text at HS ⊢
  go_wp2_with fail
  refine HS.out.mono ?_
  rintro e w4 ⟨rfl, hb4⟩
  have HB4 := Lib.hid (HB3.out.trans (hb4.mono HB3.out.size))
  clear hb4
  have s4 := HB4.out.size
  go_wp2_with fail
  refine (sane_any _ (by omega)).mono ?_
  rintro e w5 ⟨rfl, hb5⟩
  have HB5 := Lib.hid hb5
  clear hb5
  go_wp2
  go_ret
  exact ⟨rfl, HB4.out.trans (HB5.out.mono s4)⟩
set_option maxRecDepth 100000 in
theorem fnExactPage_contract (H : Type) (enc : TypeId × Value → H) (W : World) (base : Nat) (args : Array Value) (ds gs : List (DataW H)) (before : List MemPlace)
    (hval : ∀ (j : Nat) t v, Tryd.f4.params[j]? = some t → args[j]? = some v → Value.okWide Tryd.prog W .any base t v)
    (hW : DataW.Whole enc Tryd.prog Tryd.f4.params.toList Rows.fnExactPageSpec.vars false W args.toList ds gs before) (hL : laidMetH Tryd.prog laidList W) (hsh : W.ShapedOpen Tryd.prog) :
    Calls Tryd.prog 4 args W fun e W' => ∃ v, e = .returned v ∧ Rows.fnExactPageSpec.post enc Tryd.prog Tryd.f4 false true false false W args v W' := by
  have hW' := hW
  obtain ⟨p, q, hA0, hV, rfl, hfz, hnd⟩ := hW
  have hA : DataW.TrodAll enc Tryd.prog W 0 (fun _ => true) true Tryd.f4.params.toList args.toList ds p := hA0
  rw [Tryd.params4] at hA hval
  obtain ⟨v0, vs0, d0, ds0, p0, q0, hargs, rfl, rfl, h0, r0⟩ := trodAll_cons hA
  obtain ⟨v1, vs1, d1, ds1, p1, q1, rfl, rfl, rfl, h1, r1⟩ := trodAll_cons r0
  obtain ⟨rfl, rfl, rfl⟩ := trodAll_nil r1
  obtain rfl : args = #[v0, v1] := by cases args; simp_all
  obtain ⟨rfl, rfl⟩ := trodVars_none hV
  obtain ⟨a0, len0, cap0, rfl⟩ := okWide_slice Tryd.underlying27 (hval 0 27 v0 rfl rfl)
  have k0 := h0
  have lt0 : ∀ x ∈ p0, x.block < W.heap.size := by obtain ⟨m, hm⟩ := k0; exact DataW.trod_lt m _ _ _ hm
  obtain ⟨z0, w0⟩ : ∃ zs, IsRow .u8 W a0 len0 cap0 zs := by
    obtain ⟨fuel, hf⟩ := h0
    rcases open_ints Tryd.underlying27 Tryd.underlying5 (by kernel_rfl) hf with ⟨hcs, _⟩ | ⟨x, l, c, zs, hcs, _, hl, hm, hz, _, hcell, hwz⟩
    · simp [Value.cells] at hcs
      obtain ⟨rfl, rfl, rfl⟩ := hcs
      exact ⟨[], .inl ⟨rfl, rfl, rfl, rfl⟩⟩
    · simp [Value.cells] at hcs
      obtain ⟨rfl, rfl, rfl⟩ := hcs
      exact ⟨zs, .inr ⟨_, rfl, hl, hm, by simpa using hz, hcell, hwz⟩⟩
  obtain ⟨a1, len1, cap1, rfl⟩ := okWide_slice Tryd.underlying27 (hval 1 27 v1 rfl rfl)
  have k1 := h1
  have lt1 : ∀ x ∈ p1, x.block < W.heap.size := by obtain ⟨m, hm⟩ := k1; exact DataW.trod_lt m _ _ _ hm
  obtain ⟨z1, w1⟩ : ∃ zs, IsRow .u8 W a1 len1 cap1 zs := by
    obtain ⟨fuel, hf⟩ := h1
    rcases open_ints Tryd.underlying27 Tryd.underlying5 (by kernel_rfl) hf with ⟨hcs, _⟩ | ⟨x, l, c, zs, hcs, _, hl, hm, hz, _, hcell, hwz⟩
    · simp [Value.cells] at hcs
      obtain ⟨rfl, rfl, rfl⟩ := hcs
      exact ⟨[], .inl ⟨rfl, rfl, rfl, rfl⟩⟩
    · simp [Value.cells] at hcs
      obtain ⟨rfl, rfl, rfl⟩ := hcs
      exact ⟨zs, .inr ⟨_, rfl, hl, hm, by simpa using hz, hcell, hwz⟩⟩
  clear hA0
  refine (fnExactPage_walk a0 len0 cap0 z0 a1 len1 cap1 z1 W w0 w1 (size_of_shaped hsh) (pow_laid hL)).mono fun e W' ⟨he, bel⟩ => ?_
  subst he
  exact ⟨_, rfl, _, _, _, [], _, [], hW', trodAll_mk1 (shut_bool Tryd.underlying4 _), (trodAll_cons_mk (Below.trod card_laidOut (by kernel_rfl) (of_decide_eq_true (by kernel_rfl)) k0 bel lt0) (trodAll_cons_mk (Below.trod card_laidOut (by kernel_rfl) (of_decide_eq_true (by kernel_rfl)) k1 bel lt1) trodAll_mk0)), rfl, bel.frame _, fun h => by cases h⟩
theorem fnExactPage_laid_met (os : Os) : laidMet Tryd.prog Rows.fnExactPageRow.laid ((laidWorld os).forCall (fun _ _ => 0) ⟨#[], #[.slice none 0 0, .slice none 0 0], []⟩).memory :=
  laidMet_of_run' 8 (by kernel_rfl) (by kernel_rfl)
theorem fnExactPage_reads (os : Os) {H : Type} (enc : TypeId × Value → H) : ∃ places, DataW.whole enc Tryd.prog ((laidWorld os).forCall (fun _ _ => 0) ⟨#[], #[.slice none 0 0, .slice none 0 0], []⟩).memory Tryd.f4.params.toList Rows.fnExactPageSpec.vars false #[Value.slice none 0 0, Value.slice none 0 0].toList 8 = some ([.nil, .nil], [], places) :=
  ⟨[], by kernel_rfl⟩
set_option maxRecDepth 100000 in
theorem fnExactPage_lifted (os : Os) (started : os.Started) (H : Type) (enc : TypeId × Value → H) (F : Stop.Interp) :
    ReturnsInHanded {} Tryd.checked os 4 .any ((OpenSpec.ofChange Rows.fnExactPageSpec).preRow enc Tryd.prog Tryd.f4 Rows.fnExactPageRow.domain false Rows.fnExactPageRow.laid) (((OpenSpec.ofChange Rows.fnExactPageSpec).at F).post enc Tryd.prog Tryd.f4 false true false false) := by
  obtain ⟨places, hx⟩ := fnExactPage_reads os enc
  refine returnsInHanded_of_row (C := Tryd.checked) (s := OpenSpec.ofChange Rows.fnExactPageSpec) card_own started (by kernel_rfl) Tryd.func4
    (witness_row_at (enc := enc) (C := Tryd.checked) false (laidWorld os) #[.slice none 0 0, .slice none 0 0] rfl (by kernel_rfl) (by kernel_rfl) (by kernel_rfl)
      (OpenSpec.preRow_of_cond 8 hx (by kernel_rfl) (fun k hk => by cases hk) (by kernel_rfl) (fnExactPage_laid_met os))) ?_
  intro W base args ds gs before hval hW _ _ _ hL hsh _
  exact fnExactPage_contract H enc W base args ds gs before hval hW hL hsh
theorem fnExactPage_said : Rows.FnExactPageSaid :=
  OpenClaim.holds_of_cond 4 Tryd.f4 rfl rfl rfl rfl rfl rfl rfl ⟨rfl, rfl, rfl, rfl, rfl⟩ rfl rfl rfl rfl rfl (by kernel_rfl) Tryd.func4 (by kernel_rfl)
    (of_decide_eq_true (by kernel_rfl)) (by unfold Func.isWrapper; first | (rw [if_pos (by decide +kernel)]; kernel_rfl) | (rw [if_neg (by decide +kernel)]; exact ⟨rfl, rfl⟩))
    (fun os started H enc _ F => by rw [OpenClaim.pre_eq_preRow]; exact fnExactPage_lifted os started H enc F)
theorem fnExactPage_plain (f : FuncId) (fn : Func) (hf : Tryd.pinned.checked.prog.funcNamed "loop.example/pub-metricpages/laws.FnExactPage" = some f) (hfn : Tryd.pinned.checked.prog.funcs[f]? = some fn) :
    true = Tryd.pinned.checked.prog.looks [] ∧ ∀ (j : Nat) t, fn.params[j]? = some t → Tryd.pinned.checked.prog.wantsStandIn t = false := by
  obtain rfl : f = 4 := Option.some.inj ((show Tryd.prog.funcNamed "loop.example/pub-metricpages/laws.FnExactPage" = some 4 by kernel_rfl).symm.trans hf) |>.symm
  obtain rfl : fn = Tryd.f4 := (Option.some.inj (Tryd.func4.symm.trans hfn)).symm
  refine ⟨by kernel_rfl, fun j t ht => ?_⟩
  have hall : (Tryd.f4.params.toList.all fun t => !Tryd.prog.wantsStandIn t) = true := by kernel_rfl
  have hmem : t ∈ Tryd.f4.params.toList := by simpa using Array.mem_of_getElem? ht
  have h : Tryd.prog.wantsStandIn t = false := by simpa using List.all_eq_true.1 hall t hmem
  exact h
/-- The card. -/
theorem fnExactPage_card : Rows.FnExactPageCardSaid :=
  Claim7.holds_tied_plain_at .later [] _ _ _ _ fnExactPage_said (fun _ h => by cases h) (by kernel_rfl) (fun _ h => by cases h) fnExactPage_row_tie rfl ⟨rfl, rfl⟩ (by kernel_rfl) rfl fnExactPage_plain (by kernel_rfl)
#print axioms fnExactPage_card
end Go.Proofs.YtlimibjmccbdlaaDoor
