/-
  The law FnExactValid: the law's walk and the row.
-/
import Derived.Test.YtlimibjmccbdlaaValid
namespace Go.Proofs.Ytlimibjmccbdlaa
open Go.ChangeShapes Go.WideShapes Go.ChangeAt Go.RowKit

set_option maxRecDepth 100000 in
theorem fnExactValid_walk (a : Option Addr) (len cap : Nat) (zs : List Int) (w : World) (h : IsRow .u8 w a len cap zs) (hB : 4 ≤ w.heap.size) :
    Calls Try.prog 4 #[.slice a len cap] w fun e w' => e = .returned (.bool true) ∧ Below w.heap.size w w' := by
  by_cases hbig : 2147483647 < len
  · have hb : (2147483647 : Int) < len := by omega
    clear h
    go_enter Try.func4, Try.ntmps4
    go_wp2
    go_ret
    exact ⟨rfl, Below.refl _ _⟩
  · have HS := Lib.hid (signs_any a len cap zs w h (by omega))
    clear h
    go_enter Try.func4, Try.ntmps4
    go_wp2_with fail
    refine HS.out.mono ?_
    rintro e w1 ⟨l, rfl, hl6, hin, hb1⟩
    have hno : (123 : UInt8) ∉ (⟨l.toArray⟩ : ByteArray).data.toList := fun h => absurd (hin 123 (by simpa using h)) (by decide)
    have hdot : ∀ i (h : i < (⟨l.toArray⟩ : ByteArray).size), (⟨l.toArray⟩ : ByteArray)[i].toNat ≠ 46 := fun i h => by
      have hm : (⟨l.toArray⟩ : ByteArray)[i] ∈ signL := hin _ (List.getElem_mem (l := l) (show i < l.length from h))
      have hall : ∀ c ∈ signL, c.toNat ≠ 46 := by decide
      exact hall _ hm
    have hsz : (⟨l.toArray⟩ : ByteArray).size ≤ 1000 := by show l.length ≤ 1000; omega
    have HI := Lib.hid (fun W => implValid ⟨l.toArray⟩ hsz hno W)
    have HV := Lib.hid (fun W => specValid ⟨l.toArray⟩ hsz hdot W)
    have HB1 := Lib.hid hb1
    generalize (⟨l.toArray⟩ : ByteArray) = s at HI HV
    generalize identB s = b at HI HV
    clear hno hdot hsz hl6 hin hb1
    go_wp2_with fail
    refine (HI.out _).mono ?_
    rintro e w2 ⟨rfl, hb2⟩
    have HB2 := Lib.hid hb2
    clear hb2
    go_wp2_with fail
    refine (HV.out _).mono ?_
    rintro e w3 ⟨rfl, hb3⟩
    have HB3 := Lib.hid hb3
    clear hb3
    have hbb : (b == b) = true := by simp
    go_wp2_with fail
    have s1 := HB1.out.size
    have s2 := HB2.out.size
    have s3 := HB3.out.size
    refine (sane_any _ (by omega)).mono ?_
    rintro e w4 ⟨rfl, hb4⟩
    have HB4 := Lib.hid hb4
    clear hb4
    go_wp2
    go_ret
    exact ⟨rfl, ((HB1.out.trans (HB2.out.mono s1)).trans (HB3.out.mono (by omega))).trans (HB4.out.mono (by omega))⟩
theorem fnExactValid_own : ownKnob Try.prog.godebug = none := by kernel_rfl
theorem fnExactValid_laidOut : laidOutB Try.prog = true := by kernel_rfl
set_option maxRecDepth 100000 in
theorem fnExactValid_lifted (os : Os) (started : os.Started) (H : Type) (enc : TypeId × Value → H) :
    ReturnsInHanded {} Try.checked os 4 .any (Rows.fnExactValidSpec.pre6 enc Try.prog Try.f4 Rows.fnExactValidRow.domain false) (Rows.fnExactValidSpec.post enc Try.prog Try.f4 false true false false) := by
  refine returnsInHanded_of_change_shaped (C := Try.checked) fnExactValid_own started (by kernel_rfl) Try.func4
    (ChangeSpec.witness6 (enc := enc) (C := Try.checked) false ⟨#[], #[.slice none 0 0], []⟩ 8 (by kernel_rfl) (by kernel_rfl) (by kernel_rfl) (by kernel_rfl)) ?_
  intro W base args ds gs before hval0 hW hcnd _ hsh _
  have hval : ∀ (j : Nat) t v, Try.f4.params[j]? = some t → args[j]? = some v → Value.okWide Try.prog W .any base t v := hval0
  have hW' := hW
  obtain ⟨p, q, hA0, hV, rfl, hfz, hnd⟩ := hW
  have hA : DataW.TrodAll enc Try.prog W 0 (fun _ => true) true Try.f4.params.toList args.toList ds p := hA0
  rw [Try.params4] at hA hval
  obtain ⟨v0, vs0, d0, ds0, p0, q0, hargs, rfl, rfl, h0, r0⟩ := trodAll_cons hA
  obtain ⟨rfl, rfl, rfl⟩ := trodAll_nil r0
  obtain rfl : args = #[v0] := by cases args; simp_all
  obtain ⟨rfl, rfl⟩ := trodVars_none hV
  obtain ⟨a0, len0, cap0, rfl⟩ := okWide_slice Try.underlying26 (hval 0 26 v0 rfl rfl)
  have k0 := h0
  have lt0 : ∀ x ∈ p0, x.block < W.heap.size := by obtain ⟨m, hm⟩ := k0; exact DataW.trod_lt m _ _ _ hm
  obtain ⟨z0, w0⟩ : ∃ zs, IsRow .u8 W a0 len0 cap0 zs := by
    obtain ⟨fuel, hf⟩ := h0
    rcases open_ints Try.underlying26 Try.underlying5 (by kernel_rfl) hf with ⟨hcs, _⟩ | ⟨x, l, c, zs, hcs, _, hl, hm, hz, _, hcell, hwz⟩
    · simp [Value.cells] at hcs
      obtain ⟨rfl, rfl, rfl⟩ := hcs
      exact ⟨[], .inl ⟨rfl, rfl, rfl, rfl⟩⟩
    · simp [Value.cells] at hcs
      obtain ⟨rfl, rfl, rfl⟩ := hcs
      exact ⟨zs, .inr ⟨_, rfl, hl, hm, by simpa using hz, hcell, hwz⟩⟩
  clear hA0 hval0
  refine (fnExactValid_walk a0 len0 cap0 z0 W w0 (size_of_shaped hsh)).mono fun e W' ⟨he, bel⟩ => ?_
  subst he
  exact ⟨_, rfl, _, _, _, [], _, [], hW', trodAll_mk1 (shut_bool Try.underlying4 _), (trodAll_cons_mk (Below.trod fnExactValid_laidOut (by kernel_rfl) (of_decide_eq_true (by kernel_rfl)) k0 bel lt0) trodAll_mk0), rfl, bel.frame _, fun h => by cases h⟩
theorem fnExactValid_over : Rows.fnExactValidRow.holds Try.pinned (OpenSpec.ofChange Rows.fnExactValidSpec) :=
  OpenClaim.holds_of_wide 4 Try.f4 rfl rfl rfl rfl rfl rfl rfl ⟨rfl, rfl, rfl, rfl, rfl⟩ rfl rfl rfl rfl rfl (by kernel_rfl) Try.func4 (by kernel_rfl)
    (of_decide_eq_true (by kernel_rfl)) (by unfold Func.isWrapper; first | (rw [if_pos (by decide +kernel)]; kernel_rfl) | (rw [if_neg (by decide +kernel)]; exact ⟨rfl, rfl⟩))
    (fun os started H enc _ => fnExactValid_lifted os started H enc)
/-- The statement. -/
theorem fnExactValid_proved : Rows.FnExactValidSaid := fnExactValid_over
#print axioms fnExactValid_proved
end Go.Proofs.Ytlimibjmccbdlaa
