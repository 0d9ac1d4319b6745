/-
  The law FnExactLine: the law's walk and the card.
-/
import Derived.Test.YtlimibjmccbdlaaDoorLine
import Derived.Test.YtlimibjmccbdlaaDoorLaid
namespace Go.Proofs.YtlimibjmccbdlaaDoor
open Go.ChangeShapes Go.WideShapes Go.ChangeAt Go.RowKit

theorem wf_u64 {a : Int} (h : (Lit.int .u64 a).wf = true) : ∃ n : Nat, a = n ∧ n < 18446744073709551616 := by
  simp [Lit.wf, IntKind.min, IntKind.max, IntKind.bits, IntKind.signed] at h
  exact ⟨a.toNat, by omega, by omega⟩
theorem wordB_no (n : Nat) : (123 : UInt8) ∉ (wordB n).data.toList := by
  have h : ∀ k, k < 5 → (123 : UInt8) ≠ (97 + k).toUInt8 := by decide
  intro hm
  rcases List.mem_cons.1 (show (123 : UInt8) ∈ [109, (97 + n % 5).toUInt8, (97 + n / 5 % 5).toUInt8] from hm) with e | hm
  · cases e
  · rcases List.mem_cons.1 hm with e | hm
    · exact h _ (Nat.mod_lt _ (by decide)) e
    · rcases List.mem_cons.1 hm with e | hm
      · exact h _ (Nat.mod_lt _ (by decide)) e
      · cases hm

set_option maxRecDepth 100000 in
theorem fnExactLine_walk (c m : Bool) (n v : Nat) (w : World) (hn : n ≤ 255) (hv : v < 18446744073709551616) (hB : 4 ≤ w.heap.size) (hp : Lib.TabIs Tryd.prog w "internal/strconv.uint64pow10" .u64 Lib.pow10Tab) :
    Calls Tryd.prog 3 #[.bool c, .bool m, .int .u8 n, .int .u64 v] w fun e w' => e = .returned (.bool true) ∧ Below w.heap.size w w' := by
  have HS : Hid (Spells w v) := Lib.hid (.inr ⟨hv, hp⟩)
  have HW := Lib.hid (word_any n w hn)
  have hsz : (wordB n).size ≤ 100 := by rw [wordB_size]; omega
  have HI := Lib.hid (fun W h4 hsp => implLine c m (wordB n) v W h4 hsz (wordB_no n) hsp)
  have HL := Lib.hid (fun W hsp => specLine c m (wordB n) v W hsz hsp)
  clear hp
  go_enter Tryd.func3, Tryd.ntmps3
  go_wp2_with fail
  refine HW.out.mono ?_
  rintro e w1 ⟨rfl, hb1⟩
  have HB1 := Lib.hid hb1
  clear hb1
  have s1 := HB1.out.size
  go_wp2_with fail
  refine (HI.out w1 (by omega) (HS.out.below HB1.out hB)).mono ?_
  rintro e w2 ⟨rfl, hb2⟩
  have HB2 := Lib.hid (HB1.out.trans (hb2.mono s1))
  clear hb2
  have s2 := HB2.out.size
  go_wp2_with fail
  refine (HL.out w2 (HS.out.below HB2.out hB)).mono ?_
  rintro e w3 ⟨rfl, hb3⟩
  have HB3 := Lib.hid (HB2.out.trans (hb3.mono s2))
  clear hb3
  have s3 := HB3.out.size
  go_wp2_with fail
  refine (sane_any _ (by omega)).mono ?_
  rintro e w4 ⟨rfl, hb4⟩
  have HB4 := Lib.hid hb4
  clear hb4
  go_wp2
  go_ret
  exact ⟨rfl, HB3.out.trans (HB4.out.mono (by omega))⟩
set_option maxRecDepth 100000 in
theorem fnExactLine_contract (H : Type) (enc : TypeId × Value → H) (W : World) (base : Nat) (args : Array Value) (ds gs : List (DataW H)) (before : List MemPlace)
    (hval : ∀ (j : Nat) t v, Tryd.f3.params[j]? = some t → args[j]? = some v → Value.okWide Tryd.prog W .any base t v)
    (hW : DataW.Whole enc Tryd.prog Tryd.f3.params.toList Rows.fnExactLineSpec.vars false W args.toList ds gs before) (hL : laidMetH Tryd.prog laidList W) (hsh : W.ShapedOpen Tryd.prog) :
    Calls Tryd.prog 3 args W fun e W' => ∃ v, e = .returned v ∧ Rows.fnExactLineSpec.post enc Tryd.prog Tryd.f3 false true false false W args v W' := by
  have hW' := hW
  obtain ⟨p, q, hA0, hV, rfl, hfz, hnd⟩ := hW
  have hA : DataW.TrodAll enc Tryd.prog W 0 (fun _ => true) true Tryd.f3.params.toList args.toList ds p := hA0
  rw [Tryd.params3] at hA hval
  obtain ⟨v0, vs0, d0, ds0, p0, q0, hargs, rfl, rfl, h0, r0⟩ := trodAll_cons hA
  obtain ⟨v1, vs1, d1, ds1, p1, q1, rfl, rfl, rfl, h1, r1⟩ := trodAll_cons r0
  obtain ⟨v2, vs2, d2, ds2, p2, q2, rfl, rfl, rfl, h2, r2⟩ := trodAll_cons r1
  obtain ⟨v3, vs3, d3, ds3, p3, q3, rfl, rfl, rfl, h3, r3⟩ := trodAll_cons r2
  obtain ⟨rfl, rfl, rfl⟩ := trodAll_nil r3
  obtain rfl : args = #[v0, v1, v2, v3] := by cases args; simp_all
  obtain ⟨rfl, rfl⟩ := trodVars_none hV
  obtain ⟨n0, rfl, rfl, rfl⟩ := open_bool Tryd.underlying4 (hval 0 4 v0 rfl rfl) h0
  obtain ⟨n1, rfl, rfl, rfl⟩ := open_bool Tryd.underlying4 (hval 1 4 v1 rfl rfl) h1
  obtain ⟨a2, rfl, rfl, rfl, w2⟩ := open_int Tryd.underlying5 (hval 2 5 v2 rfl rfl) h2
  have z2 := w2
  obtain ⟨n2, rfl, le2⟩ := wf_u8 z2
  obtain ⟨a3, rfl, rfl, rfl, w3⟩ := open_int Tryd.underlying22 (hval 3 22 v3 rfl rfl) h3
  have z3 := w3
  obtain ⟨n3, rfl, le3⟩ := wf_u64 z3
  clear hA0
  refine (fnExactLine_walk n0 n1 n2 n3 W le2 le3 (size_of_shaped hsh) (pow_laid hL)).mono fun e W' ⟨he, bel⟩ => ?_
  subst he
  exact ⟨_, rfl, _, _, _, [], _, [], hW', trodAll_mk1 (shut_bool Tryd.underlying4 _), (trodAll_cons_mk (shut_bool Tryd.underlying4 _) (trodAll_cons_mk (shut_bool Tryd.underlying4 _) (trodAll_cons_mk (shut_int Tryd.underlying5 w2) (trodAll_cons_mk (shut_int Tryd.underlying22 w3) trodAll_mk0)))), rfl, bel.frame _, fun h => by cases h⟩
theorem fnExactLine_laid_met (os : Os) : laidMet Tryd.prog Rows.fnExactLineRow.laid ((laidWorld os).forCall (fun _ _ => 0) ⟨#[], #[.bool false, .bool false, .int .u8 0, .int .u64 0], []⟩).memory :=
  laidMet_of_run' 8 (by kernel_rfl) (by kernel_rfl)
theorem fnExactLine_reads (os : Os) {H : Type} (enc : TypeId × Value → H) : ∃ places, DataW.whole enc Tryd.prog ((laidWorld os).forCall (fun _ _ => 0) ⟨#[], #[.bool false, .bool false, .int .u8 0, .int .u64 0], []⟩).memory Tryd.f3.params.toList Rows.fnExactLineSpec.vars false #[Value.bool false, Value.bool false, Value.int .u8 0, Value.int .u64 0].toList 8 = some ([.lit (.bool false), .lit (.bool false), .lit (.int .u8 0), .lit (.int .u64 0)], [], places) :=
  ⟨[], by kernel_rfl⟩
set_option maxRecDepth 100000 in
theorem fnExactLine_lifted (os : Os) (started : os.Started) (H : Type) (enc : TypeId × Value → H) (F : Stop.Interp) :
    ReturnsInHanded {} Tryd.checked os 3 .any ((OpenSpec.ofChange Rows.fnExactLineSpec).preRow enc Tryd.prog Tryd.f3 Rows.fnExactLineRow.domain false Rows.fnExactLineRow.laid) (((OpenSpec.ofChange Rows.fnExactLineSpec).at F).post enc Tryd.prog Tryd.f3 false true false false) := by
  obtain ⟨places, hx⟩ := fnExactLine_reads os enc
  refine returnsInHanded_of_row (C := Tryd.checked) (s := OpenSpec.ofChange Rows.fnExactLineSpec) card_own started (by kernel_rfl) Tryd.func3
    (witness_row_at (enc := enc) (C := Tryd.checked) false (laidWorld os) #[.bool false, .bool false, .int .u8 0, .int .u64 0] rfl (by kernel_rfl) (by kernel_rfl) (by kernel_rfl)
      (OpenSpec.preRow_of_cond 8 hx (by kernel_rfl) (fun k hk => by cases hk) (by kernel_rfl) (fnExactLine_laid_met os))) ?_
  intro W base args ds gs before hval hW _ _ _ hL hsh _
  exact fnExactLine_contract H enc W base args ds gs before hval hW hL hsh
theorem fnExactLine_said : Rows.FnExactLineSaid :=
  OpenClaim.holds_of_cond 3 Tryd.f3 rfl rfl rfl rfl rfl rfl rfl ⟨rfl, rfl, rfl, rfl, rfl⟩ rfl rfl rfl rfl rfl (by kernel_rfl) Tryd.func3 (by kernel_rfl)
    (of_decide_eq_true (by kernel_rfl)) (by unfold Func.isWrapper; first | (rw [if_pos (by decide +kernel)]; kernel_rfl) | (rw [if_neg (by decide +kernel)]; exact ⟨rfl, rfl⟩))
    (fun os started H enc _ F => by rw [OpenClaim.pre_eq_preRow]; exact fnExactLine_lifted os started H enc F)
theorem fnExactLine_plain (f : FuncId) (fn : Func) (hf : Tryd.pinned.checked.prog.funcNamed "loop.example/pub-metricpages/laws.FnExactLine" = some f) (hfn : Tryd.pinned.checked.prog.funcs[f]? = some fn) :
    true = Tryd.pinned.checked.prog.looks [] ∧ ∀ (j : Nat) t, fn.params[j]? = some t → Tryd.pinned.checked.prog.wantsStandIn t = false := by
  obtain rfl : f = 3 := Option.some.inj ((show Tryd.prog.funcNamed "loop.example/pub-metricpages/laws.FnExactLine" = some 3 by kernel_rfl).symm.trans hf) |>.symm
  obtain rfl : fn = Tryd.f3 := (Option.some.inj (Tryd.func3.symm.trans hfn)).symm
  refine ⟨by kernel_rfl, fun j t ht => ?_⟩
  have hall : (Tryd.f3.params.toList.all fun t => !Tryd.prog.wantsStandIn t) = true := by kernel_rfl
  have hmem : t ∈ Tryd.f3.params.toList := by simpa using Array.mem_of_getElem? ht
  have h : Tryd.prog.wantsStandIn t = false := by simpa using List.all_eq_true.1 hall t hmem
  exact h
/-- The card. -/
theorem fnExactLine_card : Rows.FnExactLineCardSaid :=
  Claim7.holds_tied_plain_at .later [] _ _ _ _ fnExactLine_said (fun _ h => by cases h) (by kernel_rfl) (fun _ h => by cases h) fnExactLine_row_tie rfl ⟨rfl, rfl⟩ (by kernel_rfl) rfl fnExactLine_plain (by kernel_rfl)
#print axioms fnExactLine_card
end Go.Proofs.YtlimibjmccbdlaaDoor
