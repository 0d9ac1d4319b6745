/-
  The law FnExactTagged: what addTag, spec.Word answer, and the law's walk.
-/
import Derived.Test.YtlimibjmccbdlaaPage
import Derived.Test.YtlimibjmccbdlaaRows
import Derived.HandedShaped
import Derived.WalkKit
import Derived.ProofKit
import Derived.OpenShut
import Derived.ChangeOld
import Derived.Below
namespace Go.Proofs.Ytlimibjmccbdlaa
open Go.ChangeShapes Go.WideShapes Go.ChangeAt Go.RowKit

theorem addTag_plain (s t : ByteArray) (w : World) (hs : s.size ≤ 1000) (ht : t.size ≤ 1000) (h0 : 0 < s.size) (hc : (((s[s.size - 1]'(by omega)).toNat : Int) != 125) = true) :
    Calls Try.prog 22 #[.string s, .string t] w fun e w' => e = .returned (.string (s ++ ⟨#[123]⟩ ++ t ++ ⟨#[125]⟩)) ∧ w' = w := by
  have hz : ((s.size : Int) == 0) = false := beq_eq_false_iff_ne.2 (by omega)
  go_enter Try.func22, Try.ntmps22
  go_wp2
  go_ret
  exact ⟨rfl, rfl⟩
theorem addTag_more (s t : ByteArray) (w : World) (hs : s.size ≤ 1000) (ht : t.size ≤ 1000) (h0 : 0 < s.size) (hc : (((s[s.size - 1]'(by omega)).toNat : Int) != 125) = false) :
    Calls Try.prog 22 #[.string s, .string t] w fun e w' => e = .returned (.string (s.extract 0 (s.size - 1) ++ ⟨#[44]⟩ ++ t ++ ⟨#[125]⟩)) ∧ w' = w := by
  have hz : ((s.size : Int) == 0) = false := beq_eq_false_iff_ne.2 (by omega)
  have hx : (s.extract 0 (s.size - 1)).size = s.size - 1 := by simp
  go_enter Try.func22, Try.ntmps22
  go_wp2
  go_ret
  exact ⟨rfl, rfl⟩
theorem last_snoc (u : ByteArray) (c : UInt8) (h : (u ++ ⟨#[c]⟩).size - 1 < (u ++ ⟨#[c]⟩).size) : (u ++ ⟨#[c]⟩)[(u ++ ⟨#[c]⟩).size - 1] = c := by
  have e1 : (⟨#[c]⟩ : ByteArray).size = 1 := rfl
  rw [ByteArray.getElem_append_right (by rw [ByteArray.size_append, e1]; omega)]
  simp [ByteArray.size_append, e1]
  rfl
theorem front_snoc (u : ByteArray) (c : UInt8) : (u ++ ⟨#[c]⟩).extract 0 ((u ++ ⟨#[c]⟩).size - 1) = u := by
  have e1 : (⟨#[c]⟩ : ByteArray).size = 1 := rfl
  refine ba_ext ?_
  simp [ByteArray.data_extract, ByteArray.size_append, e1]
theorem tagged_plain (s t : ByteArray) (w : World) (hs : s.size ≤ 1000) (ht : t.size ≤ 1000) (h0 : 0 < s.size) (hc : (((s[s.size - 1]'(by omega)).toNat : Int) != 125) = true) :
    Calls Try.prog 7 #[.string s, .string t] w fun e w' => e = .returned (.string (s ++ ⟨#[123]⟩ ++ t ++ ⟨#[125]⟩)) ∧ w' = w := by
  have HT := Lib.hid (fun W => addTag_plain s t W hs ht h0 hc)
  clear hc
  go_enter Try.func7, Try.ntmps7
  go_wp2_with (go_at_call 15
               go_enter Try.func15, Try.ntmps15
               go_wp2_with (go_at_call 22; refine (HT.out _).mono ?_; rintro e w' ⟨rfl, rfl⟩))
  go_ret
  exact ⟨rfl, rfl⟩
theorem tagged_more (u t : ByteArray) (w : World) (hs : u.size ≤ 900) (ht : t.size ≤ 1000) :
    Calls Try.prog 7 #[.string (u ++ ⟨#[125]⟩), .string t] w fun e w' => e = .returned (.string (u ++ ⟨#[44]⟩ ++ t ++ ⟨#[125]⟩)) ∧ w' = w := by
  have hsz : (u ++ ⟨#[125]⟩ : ByteArray).size = u.size + 1 := by rw [ByteArray.size_append]; rfl
  have HT : Hid _ := Lib.hid (fun W : World => addTag_more (u ++ ⟨#[125]⟩) t W (by omega) ht (by omega) (by rw [last_snoc]; rfl))
  rw [front_snoc] at HT
  generalize (u ++ ⟨#[125]⟩ : ByteArray) = s at HT ⊢
  go_enter Try.func7, Try.ntmps7
  go_wp2_with (go_at_call 15
               go_enter Try.func15, Try.ntmps15
               go_wp2_with (go_at_call 22; refine (HT.out _).mono ?_; rintro e w' ⟨rfl, rfl⟩))
  go_ret
  exact ⟨rfl, rfl⟩

/-- The n-th word. -/
def wordL (n : Nat) : List UInt8 := [109, (97 + n % 5).toUInt8, (97 + n / 5 % 5).toUInt8]
def wordB (n : Nat) : ByteArray := ⟨(wordL n).toArray⟩
theorem wordB_size (n : Nat) : (wordB n).size = 3 := rfl
theorem wordB_last (n : Nat) (h : (wordB n).size - 1 < (wordB n).size) : ((((wordB n)[(wordB n).size - 1]'h).toNat : Int) != 125) = true := by
  have e : (wordB n)[(wordB n).size - 1]'h = (97 + n / 5 % 5).toUInt8 := rfl
  rw [e]
  have : (97 + n / 5 % 5).toUInt8.toNat = 97 + n / 5 % 5 := by
    rw [UInt8.toNat_ofNat']
    omega
  rw [this]
  simp
  omega
set_option maxRecDepth 100000 in
theorem word_any (n : Nat) (w : World) (hn : n ≤ 255) :
    Calls Try.prog 6 #[.int .u8 n] w fun e w' => e = .returned (.string (wordB n)) ∧ Below w.heap.size w w' := by
  have hx : ((97 + n % 5).toUInt8.toNat : Int) = 97 + (n : Int) % 5 := by
    rw [UInt8.toNat_ofNat']
    omega
  have hy : ((97 + n / 5 % 5).toUInt8.toNat : Int) = 97 + (n : Int) / 5 % 5 := by
    rw [UInt8.toNat_ofNat']
    omega
  have hcv : (convert 26 9 (.slice (some ⟨w.heap.size, 0, none⟩) 3 3)).run Try.prog (w.alloc (.cells #[.int .u8 109, .int .u8 (97 + (n : Int) % 5), .int .u8 (97 + (n : Int) / 5 % 5)] 5)) = .ok (.string (wordB n)) (w.alloc (.cells #[.int .u8 109, .int .u8 (97 + (n : Int) % 5), .int .u8 (97 + (n : Int) / 5 % 5)] 5)) := by
    refine run_convert_bytes_back (P := Try.prog) _ 26 9 5 ⟨w.heap.size, 0, none⟩ 3 (wordL n) Try.underlying26 Try.underlying5 Try.underlying9 (fun j hj => ?_)
    rw [Lib.add_plain, Nat.zero_add, World.cell?_alloc_mark]
    match j, hj with
    | 0, _ => rfl
    | 1, _ => show _ = some (Value.int .u8 ((97 + n % 5).toUInt8.toNat : Int)); rw [hx]; rfl
    | 2, _ => show _ = some (Value.int .u8 ((97 + n / 5 % 5).toUInt8.toNat : Int)); rw [hy]; rfl
  clear hx hy
  go_enter Try.func6, Try.ntmps6
  go_wp2
  go_ret
  exact ⟨rfl, (Below.refl _ _).alloc (Nat.le_refl _) _⟩
theorem size_of_shaped {w : World} (h : w.ShapedOpen Try.prog) : 4 ≤ w.heap.size := by
  have e : (((begin Try.prog (fun _ _ => 0) default).world.heap[3]?).bind Obj.row?).isSome = true := by kernel_rfl
  obtain ⟨⟨zero, t⟩, hz⟩ := Option.isSome_iff_exists.1 e
  obtain ⟨cs, hcs, _⟩ := h.1 3 zero t (by decide +kernel) hz
  have := (Array.getElem?_eq_some_iff.1 hcs).1
  omega
theorem wf_u8 {a : Int} (h : (Lit.int .u8 a).wf = true) : ∃ n : Nat, a = n ∧ n ≤ 255 := by
  simp [Lit.wf, IntKind.min, IntKind.max, IntKind.bits, IntKind.signed] at h
  exact ⟨a.toNat, by omega, by omega⟩

def pText : ByteArray := ⟨#[112, 61, 34, 49, 34]⟩
def qText (k : Nat) : ByteArray := ⟨#[113, 61, 34]⟩ ++ wordB k ++ ⟨#[34]⟩
theorem qText_size (k : Nat) : (qText k).size = 7 := rfl
set_option maxRecDepth 100000 in
theorem fnExactTagged_walk (n k : Nat) (w : World) (hn : n ≤ 255) (hk : k ≤ 255) (hB : 4 ≤ w.heap.size) :
    Calls Try.prog 3 #[.int .u8 n, .int .u8 k] w fun e w' => e = .returned (.bool true) ∧ Below w.heap.size w w' := by
  have HW1 := Lib.hid (fun W => word_any n W hn)
  have HW2 := Lib.hid (fun W => word_any k W hk)
  have HT1 := Lib.hid (fun W => tagged_plain (wordB n) pText W (by rw [wordB_size]; omega) (by decide) (by rw [wordB_size]; omega) (wordB_last n _))
  have hu : (wordB n ++ ⟨#[123]⟩ ++ pText : ByteArray).size ≤ 900 := by
    rw [ByteArray.size_append, ByteArray.size_append, wordB_size]
    decide
  have HT2 := Lib.hid (fun W => tagged_more (wordB n ++ ⟨#[123]⟩ ++ pText) (qText k) W hu (by rw [qText_size]; omega))
  unfold pText at HT1 HT2
  unfold qText at HT2
  clear hu
  have hw1 := wordB_size n
  have hw2 := wordB_size k
  go_enter Try.func3, Try.ntmps3
  go_wp2_with fail
  refine (HW1.out _).mono ?_
  rintro e w1 ⟨rfl, hb1⟩
  have HB1 := Lib.hid hb1
  clear hb1
  go_wp2_with fail
  refine (HW2.out _).mono ?_
  rintro e w2 ⟨rfl, hb2⟩
  have HB2 := Lib.hid hb2
  clear hb2
  go_wp2_with fail
  refine (HT1.out _).mono ?_
  rintro e w3 ⟨rfl, rfl⟩
  go_wp2_with fail
  refine (HT2.out _).mono ?_
  rintro e w4 ⟨rfl, rfl⟩
  go_wp2_with fail
  have hs1 := HB1.out.size
  have hs2 := HB2.out.size
  refine (sane_any _ ?_).mono ?_
  · omega
  rintro e w5 ⟨rfl, hb5⟩
  have HB5 := Lib.hid hb5
  clear hb5
  go_wp2
  go_ret
  exact ⟨rfl, (HB1.out.trans (HB2.out.mono hs1)).trans (HB5.out.mono (by omega))⟩
theorem fnExactTagged_own : ownKnob Try.prog.godebug = none := by kernel_rfl
set_option maxRecDepth 100000 in
theorem fnExactTagged_lifted (os : Os) (started : os.Started) (H : Type) (enc : TypeId × Value → H) :
    ReturnsInHanded {} Try.checked os 3 .any (Rows.fnExactTaggedSpec.pre6 enc Try.prog Try.f3 Rows.fnExactTaggedRow.domain false) (Rows.fnExactTaggedSpec.post enc Try.prog Try.f3 false true false false) := by
  refine returnsInHanded_of_change_shaped (C := Try.checked) fnExactTagged_own started (by kernel_rfl) Try.func3
    (ChangeSpec.witness6 (enc := enc) (C := Try.checked) false ⟨#[], #[.int .u8 0, .int .u8 0], []⟩ 8 (by kernel_rfl) (by kernel_rfl) (by kernel_rfl) (by kernel_rfl)) ?_
  intro W base args ds gs before hval0 hW hcnd _ hsh _
  have hval : ∀ (j : Nat) t v, Try.f3.params[j]? = some t → args[j]? = some v → Value.okWide Try.prog W .any base t v := hval0
  have hW' := hW
  obtain ⟨p, q, hA0, hV, rfl, hfz, hnd⟩ := hW
  have hA : DataW.TrodAll enc Try.prog W 0 (fun _ => true) true Try.f3.params.toList args.toList ds p := hA0
  rw [Try.params3] at hA hval
  obtain ⟨v0, vs0, d0, ds0, p0, q0, hargs, rfl, rfl, h0, r0⟩ := trodAll_cons hA
  obtain ⟨v1, vs1, d1, ds1, p1, q1, rfl, rfl, rfl, h1, r1⟩ := trodAll_cons r0
  obtain ⟨rfl, rfl, rfl⟩ := trodAll_nil r1
  obtain rfl : args = #[v0, v1] := by cases args; simp_all
  obtain ⟨rfl, rfl⟩ := trodVars_none hV
  obtain ⟨a0, rfl, rfl, rfl, w0⟩ := open_int Try.underlying5 (hval 0 5 v0 rfl rfl) h0
  have z0 := w0
  obtain ⟨n0, rfl, le0⟩ := wf_u8 z0
  obtain ⟨a1, rfl, rfl, rfl, w1⟩ := open_int Try.underlying5 (hval 1 5 v1 rfl rfl) h1
  have z1 := w1
  obtain ⟨n1, rfl, le1⟩ := wf_u8 z1
  clear hA0 hval0
  refine (fnExactTagged_walk n0 n1 W le0 le1 (size_of_shaped hsh)).mono fun e W' ⟨he, bel⟩ => ?_
  subst he
  exact ⟨_, rfl, _, _, _, [], _, [], hW', trodAll_mk1 (shut_bool Try.underlying4 _), (trodAll_cons_mk (shut_int Try.underlying5 w0) (trodAll_cons_mk (shut_int Try.underlying5 w1) trodAll_mk0)), rfl, bel.frame _, fun h => by cases h⟩
theorem fnExactTagged_over : Rows.fnExactTaggedRow.holds Try.pinned (OpenSpec.ofChange Rows.fnExactTaggedSpec) :=
  OpenClaim.holds_of_wide 3 Try.f3 rfl rfl rfl rfl rfl rfl rfl ⟨rfl, rfl, rfl, rfl, rfl⟩ rfl rfl rfl rfl rfl (by kernel_rfl) Try.func3 (by kernel_rfl)
    (of_decide_eq_true (by kernel_rfl)) (by unfold Func.isWrapper; first | (rw [if_pos (by decide +kernel)]; kernel_rfl) | (rw [if_neg (by decide +kernel)]; exact ⟨rfl, rfl⟩))
    (fun os started H enc _ => fnExactTagged_lifted os started H enc)
/-- The statement. -/
theorem fnExactTagged_proved : Rows.FnExactTaggedSaid := fnExactTagged_over
#print axioms fnExactTagged_proved
end Go.Proofs.Ytlimibjmccbdlaa
