/-
  What a counter's methods do: Add, Get, metricType, marshalTo; the family of a name; that no metadata is written where none is asked for.
-/
import Derived.Test.YtlimibjmccbdlaaGreatDoorBuf
import Derived.Lib.IndexLaws
namespace Go.Proofs.YtlimibjmccbdlaaGreatDoor
open Go.RowKit

/-- What a counter holds behind Add. -/
def addU (v n : Int) : Int := IntKind.u64.wrap (v + IntKind.u64.wrap n)

theorem counterAdd (b : Nat) (v n : Int) (w : World) (h : Box w b 91 #[.int .u64 v]) :
    Calls Tryz.prog 25 #[.pointer (some ⟨b, 0, none⟩), .int .i64 n] w fun e w' => e = .returned (.tuple #[]) ∧ w.setCell ⟨b, 0, none⟩ (.int .u64 (addU v n)) = w' := by
  have hc := h.cell 0
  simp at hc
  have hf := h.free 0
  clear h
  unfold addU
  go_enter Tryz.func25, Tryz.ntmps25
  go_wp2
  go_end0
  exact ⟨rfl, rfl⟩
theorem counterGet (b : Nat) (v : Int) (w : World) (h : Box w b 91 #[.int .u64 v]) :
    Calls Tryz.prog 128 #[.pointer (some ⟨b, 0, none⟩)] w fun e w' => e = .returned (.int .u64 v) ∧ w = w' := by
  have hc := h.cell 0
  simp at hc
  clear h
  go_enter Tryz.func128, Tryz.ntmps128
  go_wp2
  go_ret
  exact ⟨rfl, rfl⟩
theorem counterType (b : Nat) (w : World) :
    Calls Tryz.prog 127 #[.pointer (some ⟨b, 0, none⟩)] w fun e w' => e = .returned (.string ⟨#[99, 111, 117, 110, 116, 101, 114]⟩) ∧ w = w' := by
  go_enter Tryz.func127, Tryz.ntmps127
  go_wp2
  go_ret
  exact ⟨rfl, rfl⟩

/-- The line of a metric: its name, a blank, a numeral, a line's end. -/
def lineOf (name : ByteArray) (digits : List UInt8) : List UInt8 := name.data.toList ++ 32 :: (digits ++ [10])

theorem line_data (name : ByteArray) (d : List UInt8) : (name ++ ⟨#[32]⟩ ++ ⟨d.toArray⟩ ++ ⟨#[10]⟩ : ByteArray).data.toList = lineOf name d := by
  simp only [ByteArray.data_append, Array.toList_append, lineOf, List.append_assoc]
  rfl
theorem line_size (name : ByteArray) (d : List UInt8) : (name ++ ⟨#[32]⟩ ++ ⟨d.toArray⟩ ++ ⟨#[10]⟩ : ByteArray).size = (lineOf name d).length := by
  rw [← line_data, Array.length_toList]
  rfl
theorem digits_le {w : World} {v : Nat} (h : Spells w v) : (Lib.decDigits v).length ≤ 20 := by
  rw [Lib.decDigits_length]
  have hv : v < 18446744073709551616 := by
    rcases h with h | h
    · omega
    · exact h.1
  by_cases h1 : 1 ≤ v
  · have := Lib.numDigits_eq v h1 hv
    split at this <;> omega
  · rw [show v = 0 by omega, Lib.nDigits_small (by omega)]
    omega

set_option maxRecDepth 100000 in
set_option maxHeartbeats 1000000 in
theorem counterMarshal (B bb cb : Nat) (l : List UInt8) (name : ByteArray) (v : Nat) (w : World) (hB : B ≤ w.heap.size) (hbuf : BufIs w B bb l) (hc : Box w cb 91 #[.int .u64 v]) (hv : Spells w v)
    (hname : name.size ≤ 1000) (hl : l.length + (lineOf name (Lib.decDigits v)).length ≤ 1000000) :
    Calls Tryz.prog 126 #[.pointer (some ⟨cb, 0, none⟩), .string name, .iface 62 (.pointer (some ⟨bb, 0, none⟩))] w
      fun e w' => e = .returned (.tuple #[]) ∧ BufIs w' B bb (l ++ lineOf name (Lib.decDigits v)) ∧ But B bb w w' := by
  have HBUF := Lib.hid hbuf
  have HG := Lib.hid (counterGet cb v w hc)
  have HF := Lib.hid (formatUint_any v w hv)
  have HL := Lib.hid hl
  have hdig := digits_le hv
  clear hbuf hc hv hl
  go_enter Tryz.func126, Tryz.ntmps126
  go_wp2_with fail
  refine HG.out.mono ?_
  rintro e w' ⟨rfl, rfl⟩
  go_wp2_with fail
  refine HF.out.mono ?_
  rintro e w1 ⟨rfl, hb1⟩
  have H1 := Lib.hid hb1
  clear hb1
  go_wp2_with fail
  refine (writeString_any B bb l _ w1 (Nat.le_trans hB H1.out.size) (HBUF.out.kept H1.out) (by rw [line_size]; exact HL.out)).mono ?_
  rintro e w2 ⟨rfl, hb2, hbel⟩
  have HB2 := Lib.hid hb2
  have HE := Lib.hid hbel
  clear hb2 hbel
  go_wp2
  go_end0
  refine ⟨rfl, ?_, (But.of_below H1.out hB).trans HE.out⟩
  have h := HB2.out
  rw [line_data] at h
  exact h

theorem index_cases (l : List UInt8) (c : UInt8) : (Lib.indexByte l c = -1 ∧ ∀ k : Nat, l[k]? ≠ some c) ∨ ∃ k : Nat, Lib.indexByte l c = k ∧ l[k]? = some c ∧ ∀ j, j < k → l[j]? ≠ some c := by
  have h := Lib.indexByte_ge l c
  by_cases e : Lib.indexByte l c = -1
  · exact .inl ⟨e, Lib.indexByte_none e⟩
  · obtain ⟨k, hk⟩ : ∃ k : Nat, Lib.indexByte l c = k := ⟨(Lib.indexByte l c).toNat, by omega⟩
    obtain ⟨h1, h2⟩ := Lib.indexByte_some hk
    exact .inr ⟨k, hk, h1, h2⟩
theorem lt_of_at {s : ByteArray} {k : Nat} {c : UInt8} (h : s.data.toList[k]? = some c) : k < s.size := by
  have := (List.getElem?_eq_some_iff.1 h).1
  simpa using this

/-- The family of a name: some text; nothing turns. -/
theorem family_any (s : ByteArray) (w : World) :
    Calls Tryz.prog 37 #[.string s] w fun e w' => (∃ r : ByteArray, e = .returned (.string r)) ∧ w = w' := by
  have HI : Hid _ := Lib.hid (Tryz.strings_IndexByte s 123 w)
  rcases index_cases s.data.toList ((123 : Int).toNat.toUInt8) with ⟨h, _⟩ | ⟨k, h, hk, _⟩
  · rw [h] at HI
    clear h
    go_enter Tryz.func37, Tryz.ntmps37
    go_wp2_with fail
    refine HI.out.mono ?_
    rintro e w' ⟨rfl, rfl⟩
    go_wp2
    go_ret
    exact ⟨⟨_, rfl⟩, rfl⟩
  · rw [h] at HI
    have hlt := lt_of_at hk
    clear h hk
    go_enter Tryz.func37, Tryz.ntmps37
    go_wp2_with fail
    refine HI.out.mono ?_
    rintro e w' ⟨rfl, rfl⟩
    go_wp2
    go_ret
    exact ⟨⟨_, rfl⟩, rfl⟩
theorem noMetadata (a b c : Value) (w : World) :
    Calls Tryz.prog 38 #[a, .bool false, b, c] w fun e w' => e = .returned (.tuple #[]) ∧ w = w' := by
  go_enter Tryz.func38, Tryz.ntmps38
  go_wp2
  refine bodyPost_ret (results_none rfl _ _ _) rfl ?_
  exact ⟨rfl, rfl⟩
end Go.Proofs.YtlimibjmccbdlaaGreatDoor
