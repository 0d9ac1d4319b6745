/-
  The law FnExactListed: the law's walk and the card.
-/
import Derived.Test.YtlimibjmccbdlaaDoorListed
import Derived.Test.YtlimibjmccbdlaaDoorLaid
namespace Go.Proofs.YtlimibjmccbdlaaDoor
open Go.ChangeShapes Go.WideShapes Go.ChangeAt Go.RowKit

theorem implListed (names : List ByteArray) (A : Option Addr) (c n : Nat) (w : World) (h1 : names.length = n) (h20 : n ≤ 20) (good : ∀ s ∈ names, GoodName s) (L : Lies w w.heap.size A n (names.map .string)) :
    Calls Tryd.prog 16 #[.slice A n c] w fun e w' => ∃ (A' : Option Addr) (k c' : Nat), e = .returned (.slice A' k c') ∧ (eachOf names).length = k ∧ k ≤ 20 ∧
      Lies w' w'.heap.size A' k ((eachOf names).map encStr) ∧ Below w.heap.size w w' := by
  have HS := Lib.hid (implSet names A c n w h1 h20 good L)
  clear L good
  go_enter Tryd.func16, Tryd.ntmps16
  go_wp2_with fail
  refine HS.out.mono ?_
  rintro e w1 ⟨sb, mb, sv, es, rfl, hset, hmem, hel, hb1⟩
  have HL := Lib.hid (listNames sb mb sv es w1 ⟨_, hset⟩ hel)
  have HM := Lib.hid hmem
  have HB1 := Lib.hid hb1
  clear hset hmem hb1
  go_wp2_with fail
  refine HL.out.mono ?_
  rintro e w2 ⟨A', k, c', l, rfl, hl, hk, hrise, hml, hown, hb2⟩
  have he : l = eachOf names := rising_unique hrise (each_rising names) (fun x => by
    rw [hml, each_mem]
    constructor
    · intro h
      obtain ⟨e, he, rfl⟩ := List.mem_map.1 h
      exact List.mem_map.2 ⟨e.name, (HM.out _).1 (List.mem_map.2 ⟨e, he, rfl⟩), rfl⟩
    · intro h
      obtain ⟨s, hs, rfl⟩ := List.mem_map.1 h
      obtain ⟨e, he, rfl⟩ := List.mem_map.1 ((HM.out s).2 hs)
      exact List.mem_map.2 ⟨e, he, rfl⟩)
  subst he
  have HO := Lib.hid (Lies.of_own hown)
  have HB2 := Lib.hid (HB1.out.trans (hb2.mono HB1.out.size))
  clear hrise hml hown hb2
  go_wp2
  go_ret
  exact ⟨A', k, c', rfl, hl, hk, HO.out, HB2.out⟩

set_option maxRecDepth 100000 in
theorem fnExactListed_walk (a0 : Option Addr) (len0 cap0 : Nat) (z0 : List Int) (w : World) (h0 : IsRow .u8 w a0 len0 cap0 z0) (hB : 4 ≤ w.heap.size) (_hp : Lib.TabIs Tryd.prog w "internal/strconv.uint64pow10" .u64 Lib.pow10Tab) :
    Calls Tryd.prog 5 #[.slice a0 len0 cap0] w fun e w' => e = .returned (.bool true) ∧ Below w.heap.size w w' := by
  by_cases hbig : 2147483647 < len0
  · have hb : (2147483647 : Int) < len0 := by omega
    clear h0
    go_enter Tryd.func5, Tryd.ntmps5
    go_wp2
    go_ret
    exact ⟨rfl, Below.refl _ _⟩
  have HN := Lib.hid (names_any a0 len0 cap0 z0 w h0 (by omega))
  clear h0
  go_enter Tryd.func5, Tryd.ntmps5
  go_wp2_with fail
  refine HN.out.mono ?_
  rintro e w1 ⟨names, A1, n, c1, rfl, hl1, hn20, hgood, hnil, hown1, hb1⟩
  have hL1 := Lies.of_own hown1
  have HI := Lib.hid (implListed names A1 c1 n w1 hl1 hn20 hgood hL1)
  have HL1 := Lib.hid hL1
  have HB1 := Lib.hid hb1
  have HNIL := Lib.hid hnil
  clear hgood hnil hown1 hb1 hL1
  go_wp2_with fail
  refine HI.out.mono ?_
  rintro e w2 ⟨A2, k, c2, rfl, hk, hk20, hlie2, hb2⟩
  have HE := Lib.hid (each_any A1 n c1 names w2 hl1 hn20 HNIL.out ((HL1.out.below hb2 (Nat.le_refl _)).more hb2.size))
  have HL2 := Lib.hid hlie2
  have HB2 := Lib.hid (HB1.out.trans (hb2.mono HB1.out.size))
  clear hlie2 hb2
  go_wp2_with fail
  refine HE.out.mono ?_
  rintro e w3 ⟨A3, k3, c3, rfl, hk3, hown3, hb3⟩
  obtain rfl : k3 = k := hk3.trans hk
  have HS := Lib.hid (same_any A2 A3 k3 c2 c3 (eachOf names) w3 hk (by omega) ((HL2.out.below hb3 (Nat.le_refl _)).more hb3.size) (Lies.of_own hown3))
  have HB3 := Lib.hid (HB2.out.trans (hb3.mono HB2.out.size))
  clear hown3 hb3 hk3
  go_wp2_with fail
  refine HS.out.mono ?_
  rintro e w4 ⟨rfl, hb4⟩
  have HB4 := Lib.hid (HB3.out.trans (hb4.mono HB3.out.size))
  clear hb4
  have s4 := HB4.out.size
  go_wp2_with fail
  refine (sane_any _ (by omega)).mono ?_
  rintro e w5 ⟨rfl, hb5⟩
  have HB5 := Lib.hid hb5
  clear hb5
  go_wp2
  go_ret
  exact ⟨rfl, HB4.out.trans (HB5.out.mono s4)⟩
set_option maxRecDepth 100000 in
theorem fnExactListed_contract (H : Type) (enc : TypeId × Value → H) (W : World) (base : Nat) (args : Array Value) (ds gs : List (DataW H)) (before : List MemPlace)
    (hval : ∀ (j : Nat) t v, Tryd.f5.params[j]? = some t → args[j]? = some v → Value.okWide Tryd.prog W .any base t v)
    (hW : DataW.Whole enc Tryd.prog Tryd.f5.params.toList Rows.fnExactListedSpec.vars false W args.toList ds gs before) (hL : laidMetH Tryd.prog laidList W) (hsh : W.ShapedOpen Tryd.prog) :
    Calls Tryd.prog 5 args W fun e W' => ∃ v, e = .returned v ∧ Rows.fnExactListedSpec.post enc Tryd.prog Tryd.f5 false true false false W args v W' := by
  have hW' := hW
  obtain ⟨p, q, hA0, hV, rfl, hfz, hnd⟩ := hW
  have hA : DataW.TrodAll enc Tryd.prog W 0 (fun _ => true) true Tryd.f5.params.toList args.toList ds p := hA0
  rw [Tryd.params5] at hA hval
  obtain ⟨v0, vs0, d0, ds0, p0, q0, hargs, rfl, rfl, h0, r0⟩ := trodAll_cons hA
  obtain ⟨rfl, rfl, rfl⟩ := trodAll_nil r0
  obtain rfl : args = #[v0] := by cases args; simp_all
  obtain ⟨rfl, rfl⟩ := trodVars_none hV
  obtain ⟨a0, len0, cap0, rfl⟩ := okWide_slice Tryd.underlying27 (hval 0 27 v0 rfl rfl)
  have k0 := h0
  have lt0 : ∀ x ∈ p0, x.block < W.heap.size := by obtain ⟨m, hm⟩ := k0; exact DataW.trod_lt m _ _ _ hm
  obtain ⟨z0, w0⟩ : ∃ zs, IsRow .u8 W a0 len0 cap0 zs := by
    obtain ⟨fuel, hf⟩ := h0
    rcases open_ints Tryd.underlying27 Tryd.underlying5 (by kernel_rfl) hf with ⟨hcs, _⟩ | ⟨x, l, c, zs, hcs, _, hl, hm, hz, _, hcell, hwz⟩
    · simp [Value.cells] at hcs
      obtain ⟨rfl, rfl, rfl⟩ := hcs
      exact ⟨[], .inl ⟨rfl, rfl, rfl, rfl⟩⟩
    · simp [Value.cells] at hcs
      obtain ⟨rfl, rfl, rfl⟩ := hcs
      exact ⟨zs, .inr ⟨_, rfl, hl, hm, by simpa using hz, hcell, hwz⟩⟩
  clear hA0
  refine (fnExactListed_walk a0 len0 cap0 z0 W w0 (size_of_shaped hsh) (pow_laid hL)).mono fun e W' ⟨he, bel⟩ => ?_
  subst he
  exact ⟨_, rfl, _, _, _, [], _, [], hW', trodAll_mk1 (shut_bool Tryd.underlying4 _), (trodAll_cons_mk (Below.trod card_laidOut (by kernel_rfl) (of_decide_eq_true (by kernel_rfl)) k0 bel lt0) trodAll_mk0), rfl, bel.frame _, fun h => by cases h⟩
theorem fnExactListed_laid_met (os : Os) : laidMet Tryd.prog Rows.fnExactListedRow.laid ((laidWorld os).forCall (fun _ _ => 0) ⟨#[], #[.slice none 0 0], []⟩).memory :=
  laidMet_of_run' 8 (by kernel_rfl) (by kernel_rfl)
theorem fnExactListed_reads (os : Os) {H : Type} (enc : TypeId × Value → H) : ∃ places, DataW.whole enc Tryd.prog ((laidWorld os).forCall (fun _ _ => 0) ⟨#[], #[.slice none 0 0], []⟩).memory Tryd.f5.params.toList Rows.fnExactListedSpec.vars false #[Value.slice none 0 0].toList 8 = some ([.nil], [], places) :=
  ⟨[], by kernel_rfl⟩
set_option maxRecDepth 100000 in
theorem fnExactListed_lifted (os : Os) (started : os.Started) (H : Type) (enc : TypeId × Value → H) (F : Stop.Interp) :
    ReturnsInHanded {} Tryd.checked os 5 .any ((OpenSpec.ofChange Rows.fnExactListedSpec).preRow enc Tryd.prog Tryd.f5 Rows.fnExactListedRow.domain false Rows.fnExactListedRow.laid) (((OpenSpec.ofChange Rows.fnExactListedSpec).at F).post enc Tryd.prog Tryd.f5 false true false false) := by
  obtain ⟨places, hx⟩ := fnExactListed_reads os enc
  refine returnsInHanded_of_row (C := Tryd.checked) (s := OpenSpec.ofChange Rows.fnExactListedSpec) card_own started (by kernel_rfl) Tryd.func5
    (witness_row_at (enc := enc) (C := Tryd.checked) false (laidWorld os) #[.slice none 0 0] rfl (by kernel_rfl) (by kernel_rfl) (by kernel_rfl)
      (OpenSpec.preRow_of_cond 8 hx (by kernel_rfl) (fun k hk => by cases hk) (by kernel_rfl) (fnExactListed_laid_met os))) ?_
  intro W base args ds gs before hval hW _ _ _ hL hsh _
  exact fnExactListed_contract H enc W base args ds gs before hval hW hL hsh
theorem fnExactListed_said : Rows.FnExactListedSaid :=
  OpenClaim.holds_of_cond 5 Tryd.f5 rfl rfl rfl rfl rfl rfl rfl ⟨rfl, rfl, rfl, rfl, rfl⟩ rfl rfl rfl rfl rfl (by kernel_rfl) Tryd.func5 (by kernel_rfl)
    (of_decide_eq_true (by kernel_rfl)) (by unfold Func.isWrapper; first | (rw [if_pos (by decide +kernel)]; kernel_rfl) | (rw [if_neg (by decide +kernel)]; exact ⟨rfl, rfl⟩))
    (fun os started H enc _ F => by rw [OpenClaim.pre_eq_preRow]; exact fnExactListed_lifted os started H enc F)
theorem fnExactListed_plain (f : FuncId) (fn : Func) (hf : Tryd.pinned.checked.prog.funcNamed "loop.example/pub-metricpages/laws.FnExactListed" = some f) (hfn : Tryd.pinned.checked.prog.funcs[f]? = some fn) :
    true = Tryd.pinned.checked.prog.looks [] ∧ ∀ (j : Nat) t, fn.params[j]? = some t → Tryd.pinned.checked.prog.wantsStandIn t = false := by
  obtain rfl : f = 5 := Option.some.inj ((show Tryd.prog.funcNamed "loop.example/pub-metricpages/laws.FnExactListed" = some 5 by kernel_rfl).symm.trans hf) |>.symm
  obtain rfl : fn = Tryd.f5 := (Option.some.inj (Tryd.func5.symm.trans hfn)).symm
  refine ⟨by kernel_rfl, fun j t ht => ?_⟩
  have hall : (Tryd.f5.params.toList.all fun t => !Tryd.prog.wantsStandIn t) = true := by kernel_rfl
  have hmem : t ∈ Tryd.f5.params.toList := by simpa using Array.mem_of_getElem? ht
  have h : Tryd.prog.wantsStandIn t = false := by simpa using List.all_eq_true.1 hall t hmem
  exact h
/-- The card. -/
theorem fnExactListed_card : Rows.FnExactListedCardSaid :=
  Claim7.holds_tied_plain_at .later [] _ _ _ _ fnExactListed_said (fun _ h => by cases h) (by kernel_rfl) (fun _ h => by cases h) fnExactListed_row_tie rfl ⟨rfl, rfl⟩ (by kernel_rfl) rfl fnExactListed_plain (by kernel_rfl)
#print axioms fnExactListed_card
end Go.Proofs.YtlimibjmccbdlaaDoor
