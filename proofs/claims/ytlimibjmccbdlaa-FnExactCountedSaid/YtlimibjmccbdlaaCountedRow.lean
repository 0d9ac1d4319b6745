/-
  The law FnExactCounted: the law's walk and the row.
-/
import Derived.Test.YtlimibjmccbdlaaCounted
namespace Go.Proofs.Ytlimibjmccbdlaa
open Go.ChangeShapes Go.WideShapes Go.ChangeAt Go.RowKit

set_option maxRecDepth 100000 in
theorem fnExactCounted_walk (a : Option Addr) (len cap : Nat) (zs : List Int) (w : World) (h : IsRow .u8 w a len cap zs) (hB : 4 ≤ w.heap.size) :
    Calls Try.prog 5 #[.slice a len cap] w fun e w' => e = .returned (.bool true) ∧ Below w.heap.size w w' := by
  by_cases hbig : 2147483647 < len
  · have hb : (2147483647 : Int) < len := by omega
    clear h
    go_enter Try.func5, Try.ntmps5
    go_wp2
    go_ret
    exact ⟨rfl, Below.refl _ _⟩
  · have HS := Lib.hid (small_any a len cap zs w h (by omega))
    clear h
    go_enter Try.func5, Try.ntmps5
    go_wp2_with fail
    refine HS.out.mono ?_
    rintro e w1 ⟨l, A, n, c, rfl, hl, hn, hr, hown, hb1⟩
    have hlies := Lies.of_own hown
    have HI := Lib.hid (counted_any l A n c w1 hl hn hlies)
    have HLI := Lib.hid hlies
    have HRR := Lib.hid hr
    have HB1 := Lib.hid hb1
    clear hlies hr hown hb1
    go_wp2_with fail
    refine HI.out.mono ?_
    rintro e w2 ⟨rfl, hb2⟩
    have HB2 := Lib.hid hb2
    clear hb2
    have HV := Lib.hid (sum_any l A n c w2 hl hn HRR.out ((HLI.out.below HB2.out (Nat.le_refl _)).more HB2.out.size))
    go_wp2_with fail
    refine HV.out.mono ?_
    rintro e w3 ⟨rfl, rfl⟩
    go_wp2_with fail
    have s1 := HB1.out.size
    have s2 := HB2.out.size
    refine (sane_any _ (by omega)).mono ?_
    rintro e w4 ⟨rfl, hb4⟩
    have HB4 := Lib.hid hb4
    clear hb4
    go_wp2
    go_ret
    exact ⟨rfl, (HB1.out.trans (HB2.out.mono s1)).trans (HB4.out.mono (by omega))⟩
theorem fnExactCounted_own : ownKnob Try.prog.godebug = none := by kernel_rfl
theorem fnExactCounted_laidOut : laidOutB Try.prog = true := by kernel_rfl
set_option maxRecDepth 100000 in
theorem fnExactCounted_lifted (os : Os) (started : os.Started) (H : Type) (enc : TypeId × Value → H) :
    ReturnsInHanded {} Try.checked os 5 .any (Rows.fnExactCountedSpec.pre6 enc Try.prog Try.f5 Rows.fnExactCountedRow.domain false) (Rows.fnExactCountedSpec.post enc Try.prog Try.f5 false true false false) := by
  refine returnsInHanded_of_change_shaped (C := Try.checked) fnExactCounted_own started (by kernel_rfl) Try.func5
    (ChangeSpec.witness6 (enc := enc) (C := Try.checked) false ⟨#[], #[.slice none 0 0], []⟩ 8 (by kernel_rfl) (by kernel_rfl) (by kernel_rfl) (by kernel_rfl)) ?_
  intro W base args ds gs before hval0 hW hcnd _ hsh _
  have hval : ∀ (j : Nat) t v, Try.f5.params[j]? = some t → args[j]? = some v → Value.okWide Try.prog W .any base t v := hval0
  have hW' := hW
  obtain ⟨p, q, hA0, hV, rfl, hfz, hnd⟩ := hW
  have hA : DataW.TrodAll enc Try.prog W 0 (fun _ => true) true Try.f5.params.toList args.toList ds p := hA0
  rw [Try.params5] at hA hval
  obtain ⟨v0, vs0, d0, ds0, p0, q0, hargs, rfl, rfl, h0, r0⟩ := trodAll_cons hA
  obtain ⟨rfl, rfl, rfl⟩ := trodAll_nil r0
  obtain rfl : args = #[v0] := by cases args; simp_all
  obtain ⟨rfl, rfl⟩ := trodVars_none hV
  obtain ⟨a0, len0, cap0, rfl⟩ := okWide_slice Try.underlying26 (hval 0 26 v0 rfl rfl)
  have k0 := h0
  have lt0 : ∀ x ∈ p0, x.block < W.heap.size := by obtain ⟨m, hm⟩ := k0; exact DataW.trod_lt m _ _ _ hm
  obtain ⟨z0, w0⟩ : ∃ zs, IsRow .u8 W a0 len0 cap0 zs := by
    obtain ⟨fuel, hf⟩ := h0
    rcases open_ints Try.underlying26 Try.underlying5 (by kernel_rfl) hf with ⟨hcs, _⟩ | ⟨x, l, c, zs, hcs, _, hl, hm, hz, _, hcell, hwz⟩
    · simp [Value.cells] at hcs
      obtain ⟨rfl, rfl, rfl⟩ := hcs
      exact ⟨[], .inl ⟨rfl, rfl, rfl, rfl⟩⟩
    · simp [Value.cells] at hcs
      obtain ⟨rfl, rfl, rfl⟩ := hcs
      exact ⟨zs, .inr ⟨_, rfl, hl, hm, by simpa using hz, hcell, hwz⟩⟩
  clear hA0 hval0
  refine (fnExactCounted_walk a0 len0 cap0 z0 W w0 (size_of_shaped hsh)).mono fun e W' ⟨he, bel⟩ => ?_
  subst he
  exact ⟨_, rfl, _, _, _, [], _, [], hW', trodAll_mk1 (shut_bool Try.underlying4 _), (trodAll_cons_mk (Below.trod fnExactCounted_laidOut (by kernel_rfl) (of_decide_eq_true (by kernel_rfl)) k0 bel lt0) trodAll_mk0), rfl, bel.frame _, fun h => by cases h⟩
theorem fnExactCounted_over : Rows.fnExactCountedRow.holds Try.pinned (OpenSpec.ofChange Rows.fnExactCountedSpec) :=
  OpenClaim.holds_of_wide 5 Try.f5 rfl rfl rfl rfl rfl rfl rfl ⟨rfl, rfl, rfl, rfl, rfl⟩ rfl rfl rfl rfl rfl (by kernel_rfl) Try.func5 (by kernel_rfl)
    (of_decide_eq_true (by kernel_rfl)) (by unfold Func.isWrapper; first | (rw [if_pos (by decide +kernel)]; kernel_rfl) | (rw [if_neg (by decide +kernel)]; exact ⟨rfl, rfl⟩))
    (fun os started H enc _ => fnExactCounted_lifted os started H enc)
/-- The statement. -/
theorem fnExactCounted_proved : Rows.FnExactCountedSaid := fnExactCounted_over
#print axioms fnExactCounted_proved
end Go.Proofs.Ytlimibjmccbdlaa
