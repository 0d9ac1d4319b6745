/-
  impl.Line and spec.Line: one metric's text, with its metadata where asked for.
-/
import Derived.Test.YtlimibjmccbdlaaDoorBuilder
import Derived.Test.YtlimibjmccbdlaaDoorWord
namespace Go.Proofs.YtlimibjmccbdlaaDoor
open Go.RowKit

def metaText (s typ : ByteArray) : List UInt8 := [35, 32, 72, 69, 76, 80, 32] ++ s.data.toList ++ [10] ++ [35, 32, 84, 89, 80, 69, 32] ++ s.data.toList ++ [32] ++ typ.data.toList ++ [10]
def lineText (m : Bool) (s typ : ByteArray) (v : Nat) : List UInt8 := (if m then metaText s typ else []) ++ lineOf s (Lib.decDigits v)

/-- The family of a name without a brace is the name. -/
theorem family_plain (s : ByteArray) (hno : (123 : UInt8) ∉ s.data.toList) (w : World) :
    Calls Tryd.prog 62 #[.string s] w fun e w' => e = .returned (.string s) ∧ w' = w := by
  have HI : Hid _ := Lib.hid (Tryd.strings_IndexByte s 123 w)
  rw [index_absent (show (123 : Int).toNat.toUInt8 ∉ s.data.toList from hno)] at HI
  clear hno
  go_enter Tryd.func62, Tryd.ntmps62
  go_wp2_with fail
  refine HI.out.mono ?_
  rintro e w' ⟨rfl, rfl⟩
  go_wp2
  go_ret
  exact ⟨rfl, rfl⟩

abbrev IsB (B b : Nat) (l : List UInt8) (w : World) : Prop := Lib.IsBuilder 43 5 B b (Lib.byteCells l) w

theorem isB_below {B b : Nat} {l : List UInt8} {w w' : World} (h : IsB B b l w) (hb : Below w.heap.size w w') : IsB B b l w' := by
  have step : ∀ p : Value, Lib.BuilderAt 43 5 B b p (Lib.byteCells l) w → Lib.BuilderAt 43 5 B b p (Lib.byteCells l) w' := by
    intro p hp
    have hlt := hp.lt
    obtain ⟨h1, v, h2, h3, h4⟩ := hp
    refine ⟨h1, v, (hb.block b hlt).trans h2, h3.kept (w' := w') (row := none) ⟨hb.os, hb.tape, hb.output, hb.size, fun k hk _ => hb.block k hk⟩ ?_, h4⟩
    cases hv : v.ownBlock <;> simp
  exact h.elim (fun x => .inl (step _ x)) (fun x => .inr (step _ x))

theorem helpData (s : ByteArray) : (⟨#[35, 32, 72, 69, 76, 80, 32]⟩ ++ s ++ ⟨#[10]⟩ : ByteArray).data.toList = [35, 32, 72, 69, 76, 80, 32] ++ s.data.toList ++ [10] := by
  simp only [ByteArray.data_append, Array.toList_append]
theorem typeData (s typ : ByteArray) : (⟨#[35, 32, 84, 89, 80, 69, 32]⟩ ++ s ++ ⟨#[32]⟩ ++ typ ++ ⟨#[10]⟩ : ByteArray).data.toList = [35, 32, 84, 89, 80, 69, 32] ++ s.data.toList ++ [32] ++ typ.data.toList ++ [10] := by
  simp only [ByteArray.data_append, Array.toList_append]

theorem metadata (B b : Nat) (s typ : ByteArray) (w : World) (h : IsB B b [] w) (hB : B ≤ w.heap.size) (hs : s.size ≤ 100) (ht : typ.size ≤ 100) (hno : (123 : UInt8) ∉ s.data.toList) :
    Calls Tryd.prog 49 #[.iface 41 (.pointer (some ⟨b, 0, none⟩)), .bool true, .string s, .string typ] w
      fun e w' => e = .returned (.tuple #[]) ∧ IsB B b (metaText s typ) w' ∧ Below B w w' := by
  have HF := Lib.hid (fun W => family_plain s hno W)
  have e1 : (⟨#[35, 32, 72, 69, 76, 80, 32]⟩ ++ s ++ ⟨#[10]⟩ : ByteArray).size = s.size + 8 := by
    rw [ByteArray.size_append, ByteArray.size_append]
    show 7 + s.size + 1 = _
    omega
  have e2 : (⟨#[35, 32, 84, 89, 80, 69, 32]⟩ ++ s ++ ⟨#[32]⟩ ++ typ ++ ⟨#[10]⟩ : ByteArray).size = s.size + typ.size + 9 := by
    rw [ByteArray.size_append, ByteArray.size_append, ByteArray.size_append, ByteArray.size_append]
    show 7 + s.size + 1 + typ.size + 1 = _
    omega
  have H1 := Lib.hid (writeStringB B b [] (⟨#[35, 32, 72, 69, 76, 80, 32]⟩ ++ s ++ ⟨#[10]⟩) w h (by rw [e1]; simp; omega) hB)
  have H2 := Lib.hid (fun W hW hBW => writeStringB B b ([] ++ (⟨#[35, 32, 72, 69, 76, 80, 32]⟩ ++ s ++ ⟨#[10]⟩ : ByteArray).data.toList) (⟨#[35, 32, 84, 89, 80, 69, 32]⟩ ++ s ++ ⟨#[32]⟩ ++ typ ++ ⟨#[10]⟩) W hW (by rw [e2, helpData]; simp; omega) hBW)
  clear h hno e1 e2
  go_enter Tryd.func49, Tryd.ntmps49
  go_wp2_with fail
  refine (HF.out _).mono ?_
  rintro e w' ⟨rfl, rfl⟩
  go_wp2_with fail
  refine H1.out.mono ?_
  rintro e w1 ⟨rfl, hx1, hb1⟩
  have HX1 := Lib.hid hx1
  have HB1 := Lib.hid hb1
  clear hx1 hb1
  go_wp2_with fail
  refine (H2.out w1 HX1.out (Nat.le_trans hB HB1.out.size)).mono ?_
  rintro e w2 ⟨rfl, hx2, hb2⟩
  have HX2 := Lib.hid hx2
  have HB2 := Lib.hid hb2
  clear hx2 hb2
  go_wp2
  go_end0
  refine ⟨rfl, ?_, HB1.out.trans HB2.out⟩
  have h := HX2.out
  rw [helpData, typeData] at h
  unfold IsB metaText
  simpa only [List.nil_append, List.append_assoc] using h

theorem writeMetric_any (B b : Nat) (m : Bool) (s typ : ByteArray) (v : Nat) (w : World) (h : IsB B b [] w) (hB : B ≤ w.heap.size) (h4 : 4 ≤ B) (hs : s.size ≤ 100) (ht : typ.size ≤ 100) (hno : (123 : UInt8) ∉ s.data.toList) (hv : Spells w v) :
    Calls Tryd.prog 40 #[.iface 41 (.pointer (some ⟨b, 0, none⟩)), .bool m, .string s, .string typ, .int .u64 v] w
      fun e w' => e = .returned (.tuple #[]) ∧ IsB B b (lineText m s typ v) w' ∧ Below B w w' := by
  obtain ⟨l1, hl1⟩ : ∃ l1, l1 = (if m then metaText s typ else []) := ⟨_, rfl⟩
  have hlen1 : l1.length ≤ 1000 := by
    rw [hl1]
    cases m
    · simp
    · simp only [if_true, metaText, List.length_append, Array.length_toList]
      show 7 + s.size + 1 + 7 + s.size + 1 + typ.size + 1 ≤ 1000
      omega
  have HM := Lib.hid (show Calls Tryd.prog 49 #[.iface 41 (.pointer (some ⟨b, 0, none⟩)), .bool m, .string s, .string typ] w
      fun e w' => e = .returned (.tuple #[]) ∧ IsB B b l1 w' ∧ Below B w w' by
    rw [hl1]
    cases m
    · refine (noMetadata _ _ _ w).mono ?_
      rintro e w' ⟨rfl, rfl⟩
      exact ⟨rfl, h, Below.refl _ _⟩
    · exact metadata B b s typ w h hB hs ht hno)
  have HL := Lib.hid (show lineText m s typ v = l1 ++ lineOf s (Lib.decDigits v) by rw [hl1]; rfl)
  have HSP := Lib.hid hv
  have hdig := digits_le hv
  have hsz := line_size s (Lib.decDigits v)
  have hls : (lineOf s (Lib.decDigits v)).length ≤ 1000 := by
    simp [lineOf]
    omega
  clear h hl1 hno hv
  go_enter Tryd.func40, Tryd.ntmps40
  go_wp2_with fail
  refine HM.out.mono ?_
  rintro e w1 ⟨rfl, hx1, hb1⟩
  have HX1 := Lib.hid hx1
  have HB1 := Lib.hid hb1
  clear hx1 hb1
  have HF := Lib.hid (formatUint_any v w1 (HSP.out.below HB1.out h4))
  go_wp2_with fail
  refine HF.out.mono ?_
  rintro e w2 ⟨rfl, hb2⟩
  have HB2 := Lib.hid hb2
  clear hb2
  have hB1 := Nat.le_trans hB HB1.out.size
  have hX2 : IsB B b l1 w2 := isB_below HX1.out HB2.out
  have HX2 := Lib.hid hX2
  clear hX2
  go_wp2_with fail
  refine (writeStringB B b l1 _ w2 HX2.out (by rw [hsz]; omega) (Nat.le_trans hB1 HB2.out.size)).mono ?_
  rintro e w3 ⟨rfl, hx3, hb3⟩
  have HX3 := Lib.hid hx3
  have HB3 := Lib.hid hb3
  clear hx3 hb3
  go_wp2
  go_end0
  refine ⟨rfl, ?_, (HB1.out.trans (HB2.out.mono hB1)).trans HB3.out⟩
  have h := HX3.out
  rw [line_data] at h
  rw [HL.out]
  exact h

def kindOf (c : Bool) : ByteArray := if c then ⟨#[99, 111, 117, 110, 116, 101, 114]⟩ else ⟨#[103, 97, 117, 103, 101]⟩
theorem kindOf_size (c : Bool) : (kindOf c).size ≤ 100 := by cases c <;> decide

set_option maxRecDepth 100000 in
theorem implLine (c m : Bool) (s : ByteArray) (v : Nat) (w : World) (h4 : 4 ≤ w.heap.size) (hs : s.size ≤ 100) (hno : (123 : UInt8) ∉ s.data.toList) (hv : Spells w v) :
    Calls Tryd.prog 8 #[.bool c, .bool m, .string s, .int .u64 v] w fun e w' => e = .returned (.string ⟨(lineText m s (kindOf c) v).toArray⟩) ∧ Below w.heap.size w w' := by
  obtain ⟨w0, hw0⟩ : ∃ w0, w0 = w.alloc (.cells #[Value.pointer none, Value.slice none 0 0] 43) := ⟨_, rfl⟩
  have hb0 : IsB w.heap.size w.heap.size [] w0 := by rw [hw0]; exact Lib.fresh_isBuilder _ _ w
  have hbel0 : Below w.heap.size w w0 := by rw [hw0]; exact (Below.refl _ _).alloc (Nat.le_refl _) _
  have HM := Lib.hid (writeMetric_any w.heap.size w.heap.size m s (kindOf c) v w0 hb0 hbel0.size h4 hs (kindOf_size c) hno (hv.below hbel0 h4))
  have HB0 := Lib.hid hbel0
  have HW := Lib.hid hw0
  clear hb0 hbel0 hw0 hno hv
  cases c
  · go_enter Tryd.func8, Tryd.ntmps8
    go_wp2_with fail
    rw [← HW.out]
    go_enter Tryd.func22, Tryd.ntmps22
    go_wp2_with fail
    refine HM.out.mono ?_
    rintro e w1 ⟨rfl, hx1, hb1⟩
    have HX1 := Lib.hid hx1
    have HB1 := Lib.hid hb1
    clear hx1 hb1
    go_wp2
    go_end0
    go_wp2_with fail
    refine (Tryd.Builder_String_any w.heap.size w.heap.size _ w1 HX1.out (Nat.le_trans HB0.out.size HB1.out.size)).mono ?_
    rintro e w2 ⟨rfl, hb2⟩
    have HB2 := Lib.hid hb2
    clear hb2
    go_wp2
    go_ret
    exact ⟨rfl, (HB0.out.trans HB1.out).trans HB2.out⟩
  · go_enter Tryd.func8, Tryd.ntmps8
    go_wp2_with fail
    rw [← HW.out]
    go_enter Tryd.func21, Tryd.ntmps21
    go_wp2_with fail
    refine HM.out.mono ?_
    rintro e w1 ⟨rfl, hx1, hb1⟩
    have HX1 := Lib.hid hx1
    have HB1 := Lib.hid hb1
    clear hx1 hb1
    go_wp2
    go_end0
    go_wp2_with fail
    refine (Tryd.Builder_String_any w.heap.size w.heap.size _ w1 HX1.out (Nat.le_trans HB0.out.size HB1.out.size)).mono ?_
    rintro e w2 ⟨rfl, hb2⟩
    have HB2 := Lib.hid hb2
    clear hb2
    go_wp2
    go_ret
    exact ⟨rfl, (HB0.out.trans HB1.out).trans HB2.out⟩

theorem specText (m : Bool) (s typ : ByteArray) (v : Nat) :
    ((if m then ⟨#[35, 32, 72, 69, 76, 80, 32]⟩ ++ s ++ ⟨#[10, 35, 32, 84, 89, 80, 69, 32]⟩ ++ s ++ ⟨#[32]⟩ ++ typ ++ ⟨#[10]⟩ else ⟨#[]⟩) ++ s ++ ⟨#[32]⟩ ++ ⟨(Lib.decDigits v).toArray⟩ ++ ⟨#[10]⟩ : ByteArray) = ⟨(lineText m s typ v).toArray⟩ := by
  refine ba_ext ?_
  cases m <;> simp [lineText, metaText, lineOf, ByteArray.data_append]

set_option maxRecDepth 100000 in
theorem specLine (c m : Bool) (s : ByteArray) (v : Nat) (w : World) (hs : s.size ≤ 100) (hv : Spells w v) :
    Calls Tryd.prog 9 #[.bool c, .bool m, .string s, .int .u64 v] w fun e w' => e = .returned (.string ⟨(lineText m s (kindOf c) v).toArray⟩) ∧ Below w.heap.size w w' := by
  have HF := Lib.hid (formatUint_any v w hv)
  have hdig := digits_le hv
  have hds : (⟨(Lib.decDigits v).toArray⟩ : ByteArray).size ≤ 20 := hdig
  rw [← specText]
  generalize (⟨(Lib.decDigits v).toArray⟩ : ByteArray) = d at HF hds ⊢
  clear hv hdig
  cases c <;> cases m
  all_goals
    go_enter Tryd.func9, Tryd.ntmps9
    go_wp2_with fail
    refine HF.out.mono ?_
    rintro e w1 ⟨rfl, hb1⟩
    have HB1 := Lib.hid hb1
    clear hb1
    go_wp2
    go_ret
    exact ⟨rfl, HB1.out⟩
end Go.Proofs.YtlimibjmccbdlaaDoor
