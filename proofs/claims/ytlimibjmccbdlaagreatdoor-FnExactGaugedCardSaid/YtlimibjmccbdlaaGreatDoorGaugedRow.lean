/-
  The law FnExactGauged: the law's walk and the card.
-/
import Derived.Test.YtlimibjmccbdlaaGreatDoorGauged
import Derived.Test.YtlimibjmccbdlaaGreatDoorLaidZ
import Derived.Lay
namespace Go.Proofs.YtlimibjmccbdlaaGreatDoor
open Go.ChangeShapes Go.WideShapes Go.ChangeAt Go.RowKit

theorem wf_i16 {a : Int} (h : (Lit.int .i16 a).wf = true) : -32768 ≤ a ∧ a ≤ 32767 := by
  simp [Lit.wf, IntKind.min, IntKind.max, IntKind.bits, IntKind.signed] at h
  exact h

set_option maxRecDepth 100000 in
set_option maxHeartbeats 1000000 in
theorem fnExactGauged_walk (x : Int) (a0 : Option Addr) (len0 cap0 : Nat) (z0 : List Int) (w : World) (hx : -32768 ≤ x ∧ x ≤ 32767) (h0 : IsRow .u8 w a0 len0 cap0 z0) (hB : 4 ≤ w.heap.size) (hp : Lib.TabIs Tryz.prog w "internal/strconv.uint64pow10" .u64 Lib.pow10Tab) :
    Calls Tryz.prog 3 #[.int .i16 x, .slice a0 len0 cap0] w fun e w' => e = .returned (.bool true) ∧ Below w.heap.size w w' := by
  by_cases hbig : 2147483647 < len0
  · have hb : (2147483647 : Int) < len0 := by omega
    clear h0 hp
    go_enter Tryz.func3, Tryz.ntmps3
    go_wp2
    go_ret
    exact ⟨rfl, Below.refl _ _⟩
  have HS := Lib.hid (small_any a0 len0 cap0 z0 w h0 (by omega))
  have HP := Lib.hid hp
  clear h0 hp
  go_enter Tryz.func3, Tryz.ntmps3
  go_wp2_with fail
  refine HS.out.mono ?_
  rintro e w1 ⟨l, A, n, c, rfl, hl, hn, hr, hown, hb1⟩
  have HLI := Lib.hid (Lies.of_own hown)
  have HB1 := Lib.hid hb1
  have HR := Lib.hid hr
  have hsb := sum_bound l hr n
  rw [List.take_of_length_le (by omega)] at hsb
  clear hown hb1 hr
  go_wp2_with fail
  refine (sum_any l A n c w1 hl hn HR.out HLI.out).mono ?_
  rintro e w' ⟨rfl, rfl⟩
  have htm : -20000 < x.tmod 20000 ∧ x.tmod 20000 < 20000 := by
    have h : (x.tmod 20000).natAbs = x.natAbs % 20000 := by rw [Int.natAbs_tmod]; rfl
    omega
  obtain ⟨v, hv⟩ : ∃ v : Nat, v = (30000 + x.tmod 20000 + l.sum + 1).toNat := ⟨_, rfl⟩
  have HVW := Lib.hid (show 30000 + l.sum + x.tmod 20000 + 1 = (v : Int) by omega)
  have hv64 : v < 18446744073709551616 := by omega
  have hnp : ∀ g, Tryz.prog.globalNamed "internal/strconv.uint64pow10" = some g → g < 4 := fun g hg => by
    have e : Tryz.prog.globalNamed "internal/strconv.uint64pow10" = some 0 := by kernel_rfl
    obtain rfl := Option.some.inj (hg.symm.trans e)
    omega
  have hp1 := tabIs_below HP.out HB1.out (fun g hg => Nat.lt_of_lt_of_le (hnp g hg) hB)
  have HL := Lib.hid (specLine false false ⟨#[103]⟩ v w1 (by decide) (.inr ⟨hv64, hp1⟩))
  have HV := Lib.hid hv
  have HP1 := Lib.hid hp1
  have HNP := Lib.hid hnp
  clear hv hv64 hp1 hnp
  go_wp2_with fail
  rw [HVW.out]
  refine HL.out.mono ?_
  rintro e w2 ⟨rfl, hb2⟩
  have s1 := HB1.out.size
  have s2 := hb2.size
  have hlt : lineText false ⟨#[103]⟩ (kindOf false) v = lineOf ⟨#[103]⟩ (Lib.decDigits v) := rfl
  have HI := Lib.hid (implGauged (30000 + x.tmod 20000) l A n c w2 (by omega) (by omega) hl hn HR.out ((HLI.out.below hb2 (Nat.le_refl _)).more hb2.size) (by omega) (tabIs_below HP1.out hb2 (fun g hg => by have := HNP.out g hg; omega)))
  rw [← HV.out, ← hlt] at HI
  have HB2 := Lib.hid (HB1.out.trans (hb2.mono s1))
  clear hb2 hlt
  generalize (⟨(lineText false ⟨#[103]⟩ (kindOf false) v).toArray⟩ : ByteArray) = txt at HI ⊢
  go_wp2_with fail
  refine HI.out.mono ?_
  rintro e w3 ⟨rfl, hb3⟩
  have HB3 := Lib.hid (HB2.out.trans (hb3.mono HB2.out.size))
  clear hb3
  have s3 := HB3.out.size
  go_wp2_with fail
  refine (sane_any _ (by omega)).mono ?_
  rintro e w4 ⟨rfl, hb4⟩
  have HB4 := Lib.hid hb4
  clear hb4
  go_wp2
  go_ret
  exact ⟨rfl, HB3.out.trans (HB4.out.mono s3)⟩
set_option maxRecDepth 100000 in
theorem fnExactGauged_contract (H : Type) (enc : TypeId × Value → H) (W : World) (base : Nat) (args : Array Value) (ds gs : List (DataW H)) (before : List MemPlace)
    (hval : ∀ (j : Nat) t v, Tryz.f3.params[j]? = some t → args[j]? = some v → Value.okWide Tryz.prog W .any base t v)
    (hW : DataW.Whole enc Tryz.prog Tryz.f3.params.toList Rows.fnExactGaugedSpec.vars false W args.toList ds gs before) (hL : laidMetH Tryz.prog laidList W) (hsh : W.ShapedOpen Tryz.prog) :
    Calls Tryz.prog 3 args W fun e W' => ∃ v, e = .returned v ∧ Rows.fnExactGaugedSpec.post enc Tryz.prog Tryz.f3 false true false false W args v W' := by
  have hW' := hW
  obtain ⟨p, q, hA0, hV, rfl, hfz, hnd⟩ := hW
  have hA : DataW.TrodAll enc Tryz.prog W 0 (fun _ => true) true Tryz.f3.params.toList args.toList ds p := hA0
  rw [Tryz.params3] at hA hval
  obtain ⟨v0, vs0, d0, ds0, p0, q0, hargs, rfl, rfl, h0, r0⟩ := trodAll_cons hA
  obtain ⟨v1, vs1, d1, ds1, p1, q1, rfl, rfl, rfl, h1, r1⟩ := trodAll_cons r0
  obtain ⟨rfl, rfl, rfl⟩ := trodAll_nil r1
  obtain rfl : args = #[v0, v1] := by cases args; simp_all
  obtain ⟨rfl, rfl⟩ := trodVars_none hV
  obtain ⟨a0, rfl, rfl, rfl, w0⟩ := open_int Tryz.underlying22 (hval 0 22 v0 rfl rfl) h0
  have z0 := w0
  have le0 := wf_i16 z0
  obtain ⟨a1, len1, cap1, rfl⟩ := okWide_slice Tryz.underlying23 (hval 1 23 v1 rfl rfl)
  have k1 := h1
  have lt1 : ∀ x ∈ p1, x.block < W.heap.size := by obtain ⟨m, hm⟩ := k1; exact DataW.trod_lt m _ _ _ hm
  obtain ⟨z1, w1⟩ : ∃ zs, IsRow .u8 W a1 len1 cap1 zs := by
    obtain ⟨fuel, hf⟩ := h1
    rcases open_ints Tryz.underlying23 Tryz.underlying5 (by kernel_rfl) hf with ⟨hcs, _⟩ | ⟨x, l, c, zs, hcs, _, hl, hm, hz, _, hcell, hwz⟩
    · simp [Value.cells] at hcs
      obtain ⟨rfl, rfl, rfl⟩ := hcs
      exact ⟨[], .inl ⟨rfl, rfl, rfl, rfl⟩⟩
    · simp [Value.cells] at hcs
      obtain ⟨rfl, rfl, rfl⟩ := hcs
      exact ⟨zs, .inr ⟨_, rfl, hl, hm, by simpa using hz, hcell, hwz⟩⟩
  clear hA0
  refine (fnExactGauged_walk a0 a1 len1 cap1 z1 W le0 w1 (size_of_shaped hsh) (pow_laid hL)).mono fun e W' ⟨he, bel⟩ => ?_
  subst he
  exact ⟨_, rfl, _, _, _, [], _, [], hW', trodAll_mk1 (shut_bool Tryz.underlying4 _), (trodAll_cons_mk (shut_int Tryz.underlying22 w0) (trodAll_cons_mk (Below.trod card_laidOut (by kernel_rfl) (of_decide_eq_true (by kernel_rfl)) k1 bel lt1) trodAll_mk0)), rfl, bel.frame _, fun h => by cases h⟩
theorem fnExactGauged_laid_met (os : Os) : laidMet Tryz.prog Rows.fnExactGaugedRow.laid ((laidWorld os).forCall (fun _ _ => 0) ⟨#[], #[.int .i16 0, .slice none 0 0], []⟩).memory :=
  laidMet_of_run' 8 (by kernel_rfl) (by kernel_rfl)
theorem fnExactGauged_reads (os : Os) {H : Type} (enc : TypeId × Value → H) : ∃ places, DataW.whole enc Tryz.prog ((laidWorld os).forCall (fun _ _ => 0) ⟨#[], #[.int .i16 0, .slice none 0 0], []⟩).memory Tryz.f3.params.toList Rows.fnExactGaugedSpec.vars false #[Value.int .i16 0, Value.slice none 0 0].toList 8 = some ([.lit (.int .i16 0), .nil], [], places) :=
  ⟨[], by kernel_rfl⟩
theorem fnExactGauged_okB (os : Os) : Input.okWideB Tryz.checked.prog ((laidWorld os).forCall (fun _ _ => 0) ⟨#[], #[.int .i16 0, .slice none 0 0], []⟩) 3 ⟨#[], #[.int .i16 0, .slice none 0 0], []⟩ = true := by kernel_rfl
set_option maxRecDepth 100000 in
theorem fnExactGauged_lifted (os : Os) (started : os.Started) (H : Type) (enc : TypeId × Value → H) (F : Stop.Interp) :
    ReturnsInHanded {} Tryz.checked os 3 .any ((OpenSpec.ofChange Rows.fnExactGaugedSpec).preRow enc Tryz.prog Tryz.f3 Rows.fnExactGaugedRow.domain false Rows.fnExactGaugedRow.laid) (((OpenSpec.ofChange Rows.fnExactGaugedSpec).at F).post enc Tryz.prog Tryz.f3 false true false false) := by
  obtain ⟨places, hx⟩ := fnExactGauged_reads os enc
  refine returnsInHanded_of_row (C := Tryz.checked) (s := OpenSpec.ofChange Rows.fnExactGaugedSpec) card_own started (by kernel_rfl) Tryz.func3
    ⟨laidWorld os, fun _ _ => 0, ⟨#[], #[.int .i16 0, .slice none 0 0], []⟩, rfl, World.shaped_of_ZipB (by kernel_rfl) (by kernel_rfl), (Input.okWide_of_okWideB (base := 0) (fnExactGauged_okB os)).1, (Input.okWide_of_okWideB (fnExactGauged_okB os)).2,
      OpenSpec.preRow_of_cond 8 hx (by kernel_rfl) (fun k hk => by cases hk) (by kernel_rfl) (fnExactGauged_laid_met os), by simp [Assume.holds]⟩ ?_
  intro W base args ds gs before hval hW _ _ _ hL hsh _
  exact fnExactGauged_contract H enc W base args ds gs before hval hW hL hsh
theorem fnExactGauged_said : Rows.FnExactGaugedSaid :=
  OpenClaim.holds_of_cond 3 Tryz.f3 rfl rfl rfl rfl rfl rfl rfl ⟨rfl, rfl, rfl, rfl, rfl⟩ rfl rfl rfl rfl rfl (by kernel_rfl) Tryz.func3 (by kernel_rfl)
    (of_decide_eq_true (by kernel_rfl)) (by unfold Func.isWrapper; first | (rw [if_pos (by decide +kernel)]; kernel_rfl) | (rw [if_neg (by decide +kernel)]; exact ⟨rfl, rfl⟩))
    (fun os started H enc _ F => by rw [OpenClaim.pre_eq_preRow]; exact fnExactGauged_lifted os started H enc F)
theorem fnExactGauged_plain (f : FuncId) (fn : Func) (hf : Tryz.pinned.checked.prog.funcNamed "loop.example/pub-metricpages/laws.FnExactGauged" = some f) (hfn : Tryz.pinned.checked.prog.funcs[f]? = some fn) :
    true = Tryz.pinned.checked.prog.looks [] ∧ ∀ (j : Nat) t, fn.params[j]? = some t → Tryz.pinned.checked.prog.wantsStandIn t = false := by
  obtain rfl : f = 3 := Option.some.inj ((show Tryz.prog.funcNamed "loop.example/pub-metricpages/laws.FnExactGauged" = some 3 by kernel_rfl).symm.trans hf) |>.symm
  obtain rfl : fn = Tryz.f3 := (Option.some.inj (Tryz.func3.symm.trans hfn)).symm
  refine ⟨by kernel_rfl, fun j t ht => ?_⟩
  have hall : (Tryz.f3.params.toList.all fun t => !Tryz.prog.wantsStandIn t) = true := by kernel_rfl
  have hmem : t ∈ Tryz.f3.params.toList := by simpa using Array.mem_of_getElem? ht
  have h : Tryz.prog.wantsStandIn t = false := by simpa using List.all_eq_true.1 hall t hmem
  exact h
/-- The card. -/
theorem fnExactGauged_card : Rows.FnExactGaugedCardSaid :=
  Claim7.holds_tied_plain_at .later [] _ _ _ _ fnExactGauged_said (fun _ h => by cases h) (by kernel_rfl) (fun _ h => by cases h) fnExactGauged_row_tie rfl ⟨rfl, rfl⟩ (by kernel_rfl) rfl fnExactGauged_plain (by kernel_rfl)
#print axioms fnExactGauged_card
end Go.Proofs.YtlimibjmccbdlaaGreatDoor
