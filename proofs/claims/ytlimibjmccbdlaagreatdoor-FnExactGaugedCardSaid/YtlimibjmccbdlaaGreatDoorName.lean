/-
  validateMetric lets the names by that the statements make: a plain name, and a plain name with one tag.
-/
import Derived.Test.YtlimibjmccbdlaaGreatDoorCount
import Derived.LoopN
namespace Go.Proofs.YtlimibjmccbdlaaGreatDoor
open Go.RowKit

/-- The tag t="d" between braces. -/
def tagOf (d : UInt8) : List UInt8 := [123, 116, 61, 34, d, 34, 125]
/-- A name as the statements make them. -/
def GoodName (s : ByteArray) : Prop :=
  s.size ≤ 1000 ∧ ∃ id : ByteArray, identB id = true ∧ (123 : UInt8) ∉ id.data.toList ∧ (s = id ∨ ∃ d : UInt8, (d = 48 ∨ d = 49 ∨ d = 50 ∨ d = 51) ∧ s.data.toList = id.data.toList ++ tagOf d)

theorem index_absent {l : List UInt8} {c : UInt8} (h : c ∉ l) : Lib.indexByte l c = -1 := by
  rcases index_cases l c with ⟨h1, _⟩ | ⟨k, _, h2, _⟩
  · exact h1
  · exact absurd (List.mem_of_getElem? h2) h
theorem index_behind {l r : List UInt8} {c : UInt8} (h : c ∉ l) : Lib.indexByte (l ++ c :: r) c = l.length := by
  induction l with
  | nil => simp [Lib.indexByte]
  | cons x l ih =>
    have hx : x ≠ c := fun e => h (by simp [e])
    have hl : c ∉ l := fun e => h (by simp [e])
    have := ih hl
    simp only [List.cons_append, Lib.indexByte, this, List.length_cons]
    rw [if_neg (by simpa using hx), if_neg (by simp)]
    simp

theorem ba_ext {a b : ByteArray} (h : a.data.toList = b.data.toList) : a = b := by
  obtain ⟨⟨x⟩⟩ := a
  obtain ⟨⟨y⟩⟩ := b
  simp at h
  rw [h]

/-- The inside of the tag is let by. -/
theorem tags_ok (d : UInt8) (hd : d = 48 ∨ d = 49 ∨ d = 50 ∨ d = 51) (w : World) :
    Calls Tryz.prog 46 #[.string ⟨#[116, 61, 34, d, 34]⟩] w fun e w' => e = .returned .nilIface ∧ w = w' := by
  have h1 : Lib.indexByte [116, 61, 34, d, 34] ((61 : Int).toNat.toUInt8) = 1 := by
    rcases hd with rfl | rfl | rfl | rfl <;> decide
  have h2 : Lib.indexByte [d, 34] ((34 : Int).toNat.toUInt8) = 1 := by
    rcases hd with rfl | rfl | rfl | rfl <;> decide
  have I1 : Hid _ := Lib.hid (fun W : World => Tryz.strings_IndexByte ⟨#[116, 61, 34, d, 34]⟩ 61 W)
  have I2 : Hid _ := Lib.hid (fun W : World => Tryz.strings_IndexByte ⟨#[d, 34]⟩ 34 W)
  have e1 : (⟨#[116, 61, 34, d, 34]⟩ : ByteArray).data.toList = [116, 61, 34, d, 34] := rfl
  have e2 : (⟨#[d, 34]⟩ : ByteArray).data.toList = [d, 34] := rfl
  rw [e1, h1] at I1
  rw [e2, h2] at I2
  have ID : Hid _ := Lib.hid (fun W : World => validateIdent_yes ⟨#[116]⟩ W (by decide) (by decide))
  have hd1 : ((((⟨#[d, 34]⟩ : ByteArray)[0]'(Nat.zero_lt_succ 1)).toNat : Int) == 92) = false := by rcases hd with rfl | rfl | rfl | rfl <;> decide
  have hd2 : ((((⟨#[34, d, 34]⟩ : ByteArray)[0]'(Nat.zero_lt_succ 2)).toNat : Int) != 34) = false := rfl
  have x1 : (⟨#[116, 61, 34, d, 34]⟩ : ByteArray).extract 0 1 = ⟨#[116]⟩ := rfl
  have x2 : (⟨#[116, 61, 34, d, 34]⟩ : ByteArray).extract 2 5 = ⟨#[34, d, 34]⟩ := rfl
  have x3 : (⟨#[34, d, 34]⟩ : ByteArray).extract 1 3 = ⟨#[d, 34]⟩ := rfl
  have x4 : (⟨#[d, 34]⟩ : ByteArray).extract 2 2 = ⟨#[]⟩ := rfl
  clear h1 h2 e1 e2 hd
  go_enter Tryz.func46, Tryz.ntmps46
  go_wp2
  refine wp_loop_rounds 1 ?_
  rw [rounds_succ]
  go_wp2
  go_step3
  go_wp2_with fail
  refine (I1.out _).mono ?_
  rintro e w' ⟨rfl, rfl⟩
  go_wp2_with fail
  refine (ID.out _).mono ?_
  rintro e w' ⟨rfl, rfl⟩
  go_wp2
  go_step3
  go_wp2_with fail
  refine (I2.out _).mono ?_
  rintro e w' ⟨rfl, rfl⟩
  go_wp2
  refine wp_loop_rounds 1 ?_
  rw [rounds_succ]
  go_wp2
  rw [Exit.noGoto_ret]
  go_ret
  exact ⟨rfl, rfl⟩

theorem tag_len (d : UInt8) : (tagOf d).length = 7 := rfl
theorem size_of_data {s : ByteArray} {l : List UInt8} (h : s.data.toList = l) : s.size = l.length := by
  rw [← h, Array.length_toList]
  rfl

set_option maxHeartbeats 1000000 in
theorem validate_good (s : ByteArray) (h : GoodName s) (w : World) :
    Calls Tryz.prog 30 #[.string s] w fun e w' => e = .returned .nilIface ∧ w = w' := by
  obtain ⟨hs, id, hid, hno, hsh⟩ := h
  have hpos : 0 < id.size := by
    unfold identB at hid
    exact (of_decide_eq_true hid).1
  rcases hsh with rfl | ⟨d, hd, hdata⟩
  · have HI : Hid _ := Lib.hid (fun W : World => Tryz.strings_IndexByte s 123 W)
    rw [index_absent (show (123 : Int).toNat.toUInt8 ∉ s.data.toList from hno)] at HI
    have ID := Lib.hid (fun W : World => validateIdent_yes s W (by omega) hid)
    have hz : ((s.size : Int) == 0) = false := beq_eq_false_iff_ne.2 (by omega)
    clear hno hid
    go_enter Tryz.func30, Tryz.ntmps30
    go_wp2_with fail
    refine (HI.out _).mono ?_
    rintro e w' ⟨rfl, rfl⟩
    go_wp2_with fail
    refine (ID.out _).mono ?_
    rintro e w' ⟨rfl, rfl⟩
    go_wp2
    go_ret
    exact ⟨rfl, rfl⟩
  · have hsz : s.size = id.size + 7 := by
      rw [size_of_data hdata, List.length_append, tag_len, Array.length_toList]
      rfl
    have HI : Hid _ := Lib.hid (fun W : World => Tryz.strings_IndexByte s 123 W)
    rw [hdata, show (123 : Int).toNat.toUInt8 = (123 : UInt8) from rfl, show tagOf d = 123 :: [116, 61, 34, d, 34, 125] from rfl, index_behind hno, Array.length_toList] at HI
    have ID := Lib.hid (fun W : World => validateIdent_yes id W (by omega) hid)
    have HT := Lib.hid (fun W : World => tags_ok d hd W)
    have x1 : s.extract 0 id.size = id := by
      refine ba_ext ?_
      simp only [ByteArray.data_extract, Array.toList_extract, List.extract, hdata, List.drop_zero, Nat.sub_zero]
      exact List.take_left' (by simp)
    have x2 : s.extract (id.size + 1) s.size = ⟨#[116, 61, 34, d, 34, 125]⟩ := by
      refine ba_ext ?_
      simp only [ByteArray.data_extract, Array.toList_extract, List.extract, hdata, hsz]
      have hl : id.data.toList.length = id.size := by simp
      rw [← hl, List.drop_append, List.drop_eq_nil_of_le (by omega), show id.data.toList.length + 1 - id.data.toList.length = 1 by omega, show id.data.toList.length + 7 - (id.data.toList.length + 1) = 6 by omega]
      rfl
    have x3 : (⟨#[116, 61, 34, d, 34, 125]⟩ : ByteArray).extract 0 5 = ⟨#[116, 61, 34, d, 34]⟩ := rfl
    have hz : ((s.size : Int) == 0) = false := beq_eq_false_iff_ne.2 (by omega)
    have hlt : id.size < s.size := by omega
    have hc : ((((⟨#[116, 61, 34, d, 34, 125]⟩ : ByteArray)[5]'(show 5 < 6 from by decide)).toNat : Int) != 125) = false := rfl
    have X1 := Lib.hid x1
    have X2 := Lib.hid x2
    clear hno hid hd x1 x2 hdata hsz
    go_enter Tryz.func30, Tryz.ntmps30
    go_wp2_with fail
    refine (HI.out _).mono ?_
    rintro e w' ⟨rfl, rfl⟩
    go_wp2_with fail
    rw [X1.out, X2.out]
    refine (ID.out _).mono ?_
    rintro e w' ⟨rfl, rfl⟩
    go_wp2_with fail
    refine (HT.out _).mono ?_
    rintro e w' ⟨rfl, rfl⟩
    go_wp2
    go_ret
    exact ⟨rfl, rfl⟩
end Go.Proofs.YtlimibjmccbdlaaGreatDoor
