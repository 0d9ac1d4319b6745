/-
  spec.Small, spec.Sum, spec.Line.
-/
import Derived.Test.YtlimibjmccbdlaaGreatDoorRow
namespace Go.Proofs.YtlimibjmccbdlaaGreatDoor
open Go.ChangeShapes Go.WideShapes Go.ChangeAt Go.RowKit

theorem MapIs.miss_ok {w : World} {mb : Nat} {es : List Met} (h : MapIs w mb es) (s : ByteArray) (hs : s.size ≤ maxLen) (hl : look es s.data.toList = none) :
    (Instr.lookup 43 (.map (some mb)) (.string s) true).run Tryz.prog w = .ok (.tuple #[.pointer none, .bool false]) w := by
  obtain ⟨D, hown, _, hat⟩ := h
  obtain ⟨v, ps, hrun, hv⟩ := hown.look_ok (t := 43) keyed Tryz.underlying43 (zeroPtr w) ptrElem_nil (WideMaps.keyOf_string_mk Tryz.underlying9 hs)
  have hh : Maps.has D (.string s.data.toList) = false := Maps.has_false_of_atKey (fun z => by rw [hat, hl])
  rw [hat, hl] at hv
  rw [hrun, ptrElem_none hv, hh]

theorem small_range (m : Nat) : -128 ≤ wrap64 (IntKind.i8.wrap (m : Int)) ∧ wrap64 (IntKind.i8.wrap (m : Int)) ≤ 127 := by
  have h : -128 ≤ IntKind.i8.wrap (m : Int) ∧ IntKind.i8.wrap (m : Int) ≤ 127 := by
    unfold IntKind.wrap
    simp [IntKind.signed, IntKind.bits]
    omega
  unfold wrap64
  omega

set_option maxRecDepth 100000 in
set_option maxHeartbeats 1000000 in
theorem small_any (a : Option Addr) (len cap : Nat) (zs : List Int) (w : World) (h : IsRow .u8 w a len cap zs) (hlen : len ≤ 2147483647) :
    Calls Tryz.prog 4 #[.slice a len cap] w fun e w' => ∃ (l : List Int) (A : Option Addr) (n c : Nat), e = .returned (.slice A n c) ∧ l.length = n ∧ n ≤ 20 ∧ (∀ z ∈ l, -128 ≤ z ∧ z ≤ 127) ∧
      w'.ownsRow w.heap.size 3 1 (.slice A n c) n (l.map (.int .i64)) ∧ Below w.heap.size w w' := by
  obtain ⟨i0, hi, hz0, hz1, hz2⟩ := info_parts Tryz.infoInt
  have HR := Lib.hid h
  clear h
  go_enter Tryz.func4, Tryz.ntmps4
  go_wp2
  go_loopw [3, 4] (fun v i wr => ∃ (k : Nat) (l : List Int) (A : Option Addr) (c : Nat), k ≤ 20 ∧ k ≤ len ∧ l.length = k ∧ i = .int .i64 k ∧ (∀ z ∈ l, -128 ≤ z ∧ z ≤ 127) ∧ v = .slice A k c ∧ wr.ownsRow w.heap.size 3 1 (.slice A k c) k (l.map (.int .i64)) ∧ Below w.heap.size w wr) (fun _ i _ => 20 - (intOf i).toNat)
  case atStart => exact ⟨0, [], none, 0, by omega, by omega, rfl, rfl, by simp, rfl, World.ownsRow_nil _ _ _ _, Below.refl _ _⟩
  case round =>
    obtain ⟨k, l, A, c0, hk6, hkl, hll, rfl, hin, rfl, hown, hbel⟩ := hrel
    have HI := Lib.hid hin
    have HO := Lib.hid hown
    have HB := Lib.hid hbel
    have HL := Lib.hid hll
    clear hin hown hbel hll
    by_cases h1 : k < len
    · by_cases h2 : k < 20
      · obtain ⟨x, m, hx, hm, hm255, hxb⟩ : ∃ (x : Addr) (m : Nat), a = some x ∧ w.cell? (x.add k) = some (.int .u8 m) ∧ m ≤ 255 ∧ x.block < w.heap.size := by
          have hr := HR.out
          rcases hr with ⟨_, h0, _⟩ | ⟨x, rfl, hc1, _, hz, hcell, hwf⟩
          · omega
          · have hkz : k < zs.length := by omega
            obtain ⟨m, hm, hm2⟩ := wf_u8 (hwf (zs.getD k 0) (by rw [List.getD_eq_getElem?_getD, List.getElem?_eq_getElem hkz]; exact List.getElem_mem _))
            exact ⟨x, m, rfl, by rw [hcell k hkz, hm], hm2, row_lt HR.out (by omega) x rfl⟩
        subst hx
        have hcell : wr.cell? (x.add k) = some (.int .u8 m) := by rw [HB.out.cell (p := x.add k) (by rw [add_block]; exact hxb)]; exact hm
        obtain ⟨z, hz⟩ : ∃ z, z = wrap64 (IntKind.i8.wrap (m : Int)) := ⟨_, rfl⟩
        have hzr : -128 ≤ z ∧ z ≤ 127 := by
          rw [hz]
          exact small_range m
        have HZR := Lib.hid hzr
        have HZ := Lib.hid hz
        have HO2 := Lib.hid (HO.out.alloc (.cells #[.int .i64 z] 3))
        have hbs : w.heap.size ≤ (wr.alloc (.cells #[.int .i64 z] 3)).heap.size := by have := HB.out.size; simp; omega
        clear hz hzr
        go_wp2_with (at_builtin; rw [← HZ.out]; refine wpList_append_own _ rfl _ _ 24 rfl w.heap.size 3 i0 (.int .i64 0) 1 8 Tryz.underlying24 hi hz0 hz1 hz2 rfl (by decide) (.slice A k c0) k (l.map (.int .i64)) rfl HO2.out ⟨wr.heap.size, 0, none⟩ 1 1 [.int .i64 z] rfl rfl (cell_one_new _ _ _) (by simp [Value.oneCell']) (by unfold maxLen; omega) (by omega) hbs ?_; intro v' w1 hown1 hgrow1 _; obtain ⟨A', c', hv'⟩ := own_form hown1; rw [hv'] at hown1 ⊢; clear hv'; have HG := Lib.hid hgrow1; have HO1 := Lib.hid hown1; clear hgrow1 hown1)
        go_roundw
        case rel =>
          refine ⟨k + 1, l ++ [z], A', c', by omega, by omega, by simp [HL.out], by go_num, ?_, rfl, ?_, ?_⟩
          · intro c hc
            rcases List.mem_append.1 hc with hc | hc
            · exact HI.out c hc
            · rw [List.mem_singleton.1 hc]; exact HZR.out
          · rw [List.map_append]; exact HO1.out
          · refine Below.grown (HB.out.alloc HB.out.size _) HG.out hbs (fun g hg => ?_)
            exact (HO2.out.lt g hg).1
        case measure => simp [intOf]; omega
      · have hk : k = 20 := by omega
        subst hk
        go_wp2
        go_ret
        exact ⟨l, A, _, c0, rfl, HL.out, by omega, HI.out, HO.out, HB.out⟩
    · have hk : k = len := by omega
      subst hk
      go_wp2
      go_ret
      exact ⟨l, A, _, c0, rfl, HL.out, by omega, HI.out, HO.out, HB.out⟩
theorem take_sum (l : List Int) (k : Nat) (h : k < l.length) : (l.take (k + 1)).sum = (l.take k).sum + l[k] := by
  rw [List.take_succ_eq_append_getElem h, List.sum_append]
  simp
theorem sum_bound (l : List Int) (h : ∀ z ∈ l, -128 ≤ z ∧ z ≤ 127) : ∀ k : Nat, -(128 * (k : Int)) ≤ (l.take k).sum ∧ (l.take k).sum ≤ 128 * (k : Int)
  | 0 => by simp
  | k + 1 => by
    have ih := sum_bound l h k
    by_cases hk : k < l.length
    · rw [take_sum l k hk]
      have := h _ (List.getElem_mem hk)
      omega
    · rw [List.take_of_length_le (by omega)] at ih ⊢
      omega

set_option maxRecDepth 100000 in
set_option maxHeartbeats 1000000 in
theorem sum_any (l : List Int) (A : Option Addr) (n c : Nat) (w : World) (hl : l.length = n) (hn : n ≤ 20) (hr : ∀ z ∈ l, -128 ≤ z ∧ z ≤ 127) (L : Lies w w.heap.size A n (l.map (.int .i64))) :
    Calls Tryz.prog 6 #[.slice A n c] w fun e w' => e = .returned (.int .i64 l.sum) ∧ w = w' := by
  have HLIE := Lib.hid L
  have HSB := Lib.hid (sum_bound l hr)
  have HR := Lib.hid hr
  clear L hr
  go_enter Tryz.func6, Tryz.ntmps6
  go_wp2
  go_loop [3, 8] (fun s i => ∃ (k : Nat), k ≤ n ∧ i = .int .i64 k ∧ s = .int .i64 (l.take k).sum) (fun _ i => n - (intOf i).toNat)
  case atStart => exact ⟨0, Nat.zero_le _, rfl, rfl⟩
  case round =>
    obtain ⟨k, hk, rfl, rfl⟩ := hrel
    by_cases hlt : k < n
    · have hkl : k < l.length := by omega
      obtain ⟨b, off, ha, hb, hc⟩ := HLIE.out.2 (by omega)
      subst ha
      obtain ⟨m, hm⟩ : ∃ m, m = l[k] := ⟨_, rfl⟩
      have d1 : w.cell? ⟨b, off + k, none⟩ = some (.int .i64 m) := hc k _ (by rw [List.getElem?_map, List.getElem?_eq_getElem hkl, hm]; rfl)
      have HS := Lib.hid (show (l.take (k + 1)).sum = (l.take k).sum + m by rw [take_sum l k hkl, hm])
      have hmr := HR.out m (by rw [hm]; exact List.getElem_mem hkl)
      have hsb := HSB.out k
      have HC := Lib.hid hc
      clear hm hc
      go_wp2
      go_round
      case rel => exact ⟨k + 1, by omega, by go_num, by rw [HS.out]⟩
      case measure => simp [intOf]; omega
    · have hks : k = n := by omega
      subst hks
      have HE := Lib.hid (show l.take k = l from List.take_of_length_le (by omega))
      go_wp2
      go_ret
      refine ⟨?_, rfl⟩
      rw [HE.out]
      rfl
def metaText (s typ : ByteArray) : List UInt8 := [35, 32, 72, 69, 76, 80, 32] ++ s.data.toList ++ [10] ++ [35, 32, 84, 89, 80, 69, 32] ++ s.data.toList ++ [32] ++ typ.data.toList ++ [10]
def lineText (m : Bool) (s typ : ByteArray) (v : Nat) : List UInt8 := (if m then metaText s typ else []) ++ lineOf s (Lib.decDigits v)

def kindOf (c : Bool) : ByteArray := if c then ⟨#[99, 111, 117, 110, 116, 101, 114]⟩ else ⟨#[103, 97, 117, 103, 101]⟩
theorem kindOf_size (c : Bool) : (kindOf c).size ≤ 100 := by cases c <;> decide

theorem specText (m : Bool) (s typ : ByteArray) (v : Nat) :
    ((if m then ⟨#[35, 32, 72, 69, 76, 80, 32]⟩ ++ s ++ ⟨#[10, 35, 32, 84, 89, 80, 69, 32]⟩ ++ s ++ ⟨#[32]⟩ ++ typ ++ ⟨#[10]⟩ else ⟨#[]⟩) ++ s ++ ⟨#[32]⟩ ++ ⟨(Lib.decDigits v).toArray⟩ ++ ⟨#[10]⟩ : ByteArray) = ⟨(lineText m s typ v).toArray⟩ := by
  refine ba_ext ?_
  cases m <;> simp [lineText, metaText, lineOf, ByteArray.data_append]

set_option maxRecDepth 100000 in
theorem specLine (c m : Bool) (s : ByteArray) (v : Nat) (w : World) (hs : s.size ≤ 100) (hv : Spells w v) :
    Calls Tryz.prog 5 #[.bool c, .bool m, .string s, .int .u64 v] w fun e w' => e = .returned (.string ⟨(lineText m s (kindOf c) v).toArray⟩) ∧ Below w.heap.size w w' := by
  have HF := Lib.hid (formatUint_any v w hv)
  have hdig := digits_le hv
  have hds : (⟨(Lib.decDigits v).toArray⟩ : ByteArray).size ≤ 20 := hdig
  rw [← specText]
  generalize (⟨(Lib.decDigits v).toArray⟩ : ByteArray) = d at HF hds ⊢
  clear hv hdig
  cases c <;> cases m
  all_goals
    go_enter Tryz.func5, Tryz.ntmps5
    go_wp2_with fail
    refine HF.out.mono ?_
    rintro e w1 ⟨rfl, hb1⟩
    have HB1 := Lib.hid hb1
    clear hb1
    go_wp2
    go_ret
    exact ⟨rfl, HB1.out⟩
end Go.Proofs.YtlimibjmccbdlaaGreatDoor
