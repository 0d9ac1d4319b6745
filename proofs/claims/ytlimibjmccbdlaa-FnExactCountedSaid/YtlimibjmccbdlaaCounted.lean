/-
  The law FnExactCounted: spec.Small, spec.Sum, a counter of a set's, impl.Counted.
-/
import Derived.Test.YtlimibjmccbdlaaValid
namespace Go.Proofs.Ytlimibjmccbdlaa
open Go.ChangeShapes Go.WideShapes Go.ChangeAt Go.RowKit

theorem MapIs.miss_ok {w : World} {mb : Nat} {es : List Met} (h : MapIs w mb es) (s : ByteArray) (hs : s.size ≤ maxLen) (hl : look es s.data.toList = none) :
    (Instr.lookup 48 (.map (some mb)) (.string s) true).run Try.prog w = .ok (.tuple #[.pointer none, .bool false]) w := by
  obtain ⟨D, hown, _, hat⟩ := h
  obtain ⟨v, ps, hrun, hv⟩ := hown.look_ok (t := 48) keyed Try.underlying48 (zeroPtr w) ptrElem_nil (WideMaps.keyOf_string_mk Try.underlying9 hs)
  have hh : Maps.has D (.string s.data.toList) = false := Maps.has_false_of_atKey (fun z => by rw [hat, hl])
  rw [hat, hl] at hv
  rw [hrun, ptrElem_none hv, hh]

theorem Try.infoInt : (Try.prog.info? 3).map (fun i => (i.zero, i.size, i.bytes)) = some (some (.int .i64 0), 1, 8) := by kernel_rfl

theorem small_range (m : Nat) : -128 ≤ wrap64 (IntKind.i8.wrap (m : Int)) ∧ wrap64 (IntKind.i8.wrap (m : Int)) ≤ 127 := by
  have h : -128 ≤ IntKind.i8.wrap (m : Int) ∧ IntKind.i8.wrap (m : Int) ≤ 127 := by
    unfold IntKind.wrap
    simp [IntKind.signed, IntKind.bits]
    omega
  unfold wrap64
  omega

set_option maxRecDepth 100000 in
set_option maxHeartbeats 1000000 in
theorem small_any (a : Option Addr) (len cap : Nat) (zs : List Int) (w : World) (h : IsRow .u8 w a len cap zs) (hlen : len ≤ 2147483647) :
    Calls Try.prog 12 #[.slice a len cap] w fun e w' => ∃ (l : List Int) (A : Option Addr) (n c : Nat), e = .returned (.slice A n c) ∧ l.length = n ∧ n ≤ 20 ∧ (∀ z ∈ l, -128 ≤ z ∧ z ≤ 127) ∧
      w'.ownsRow w.heap.size 3 1 (.slice A n c) n (l.map (.int .i64)) ∧ Below w.heap.size w w' := by
  obtain ⟨i0, hi, hz0, hz1, hz2⟩ := info_parts Try.infoInt
  have HR := Lib.hid h
  clear h
  go_enter Try.func12, Try.ntmps12
  go_wp2
  go_loopw [3, 4] (fun v i wr => ∃ (k : Nat) (l : List Int) (A : Option Addr) (c : Nat), k ≤ 20 ∧ k ≤ len ∧ l.length = k ∧ i = .int .i64 k ∧ (∀ z ∈ l, -128 ≤ z ∧ z ≤ 127) ∧ v = .slice A k c ∧ wr.ownsRow w.heap.size 3 1 (.slice A k c) k (l.map (.int .i64)) ∧ Below w.heap.size w wr) (fun _ i _ => 20 - (intOf i).toNat)
  case atStart => exact ⟨0, [], none, 0, by omega, by omega, rfl, rfl, by simp, rfl, World.ownsRow_nil _ _ _ _, Below.refl _ _⟩
  case round =>
    obtain ⟨k, l, A, c0, hk6, hkl, hll, rfl, hin, rfl, hown, hbel⟩ := hrel
    have HI := Lib.hid hin
    have HO := Lib.hid hown
    have HB := Lib.hid hbel
    have HL := Lib.hid hll
    clear hin hown hbel hll
    by_cases h1 : k < len
    · by_cases h2 : k < 20
      · obtain ⟨x, m, hx, hm, hm255, hxb⟩ : ∃ (x : Addr) (m : Nat), a = some x ∧ w.cell? (x.add k) = some (.int .u8 m) ∧ m ≤ 255 ∧ x.block < w.heap.size := by
          have hr := HR.out
          rcases hr with ⟨_, h0, _⟩ | ⟨x, rfl, hc1, _, hz, hcell, hwf⟩
          · omega
          · have hkz : k < zs.length := by omega
            obtain ⟨m, hm, hm2⟩ := wf_u8 (hwf (zs.getD k 0) (by rw [List.getD_eq_getElem?_getD, List.getElem?_eq_getElem hkz]; exact List.getElem_mem _))
            exact ⟨x, m, rfl, by rw [hcell k hkz, hm], hm2, row_lt HR.out (by omega) x rfl⟩
        subst hx
        have hcell : wr.cell? (x.add k) = some (.int .u8 m) := by rw [HB.out.cell (p := x.add k) (by rw [add_block]; exact hxb)]; exact hm
        obtain ⟨z, hz⟩ : ∃ z, z = wrap64 (IntKind.i8.wrap (m : Int)) := ⟨_, rfl⟩
        have hzr : -128 ≤ z ∧ z ≤ 127 := by
          rw [hz]
          exact small_range m
        have HZR := Lib.hid hzr
        have HZ := Lib.hid hz
        have HO2 := Lib.hid (HO.out.alloc (.cells #[.int .i64 z] 3))
        have hbs : w.heap.size ≤ (wr.alloc (.cells #[.int .i64 z] 3)).heap.size := by have := HB.out.size; simp; omega
        clear hz hzr
        go_wp2_with (at_builtin; rw [← HZ.out]; refine wpList_append_own _ rfl _ _ 30 rfl w.heap.size 3 i0 (.int .i64 0) 1 8 Try.underlying30 hi hz0 hz1 hz2 rfl (by decide) (.slice A k c0) k (l.map (.int .i64)) rfl HO2.out ⟨wr.heap.size, 0, none⟩ 1 1 [.int .i64 z] rfl rfl (cell_one_new _ _ _) (by simp [Value.oneCell']) (by unfold maxLen; omega) (by omega) hbs ?_; intro v' w1 hown1 hgrow1 _; obtain ⟨A', c', hv'⟩ := own_form hown1; rw [hv'] at hown1 ⊢; clear hv'; have HG := Lib.hid hgrow1; have HO1 := Lib.hid hown1; clear hgrow1 hown1)
        go_roundw
        case rel =>
          refine ⟨k + 1, l ++ [z], A', c', by omega, by omega, by simp [HL.out], by go_num, ?_, rfl, ?_, ?_⟩
          · intro c hc
            rcases List.mem_append.1 hc with hc | hc
            · exact HI.out c hc
            · rw [List.mem_singleton.1 hc]; exact HZR.out
          · rw [List.map_append]; exact HO1.out
          · refine Below.grown (HB.out.alloc HB.out.size _) HG.out hbs (fun g hg => ?_)
            exact (HO2.out.lt g hg).1
        case measure => simp [intOf]; omega
      · have hk : k = 20 := by omega
        subst hk
        go_wp2
        go_ret
        exact ⟨l, A, _, c0, rfl, HL.out, by omega, HI.out, HO.out, HB.out⟩
    · have hk : k = len := by omega
      subst hk
      go_wp2
      go_ret
      exact ⟨l, A, _, c0, rfl, HL.out, by omega, HI.out, HO.out, HB.out⟩

theorem goodC : GoodName ⟨#[99]⟩ := ⟨by decide, ⟨#[99]⟩, by decide, by decide, .inl rfl⟩

set_option maxRecDepth 100000 in
set_option maxHeartbeats 2000000 in
/-- A new counter of an empty set. -/
theorem newCounter (B sb mb : Nat) (s : ByteArray) (w : World) (h : SetIs w B sb mb (.slice none 0 0) []) (hs : GoodName s) (hB : B ≤ w.heap.size) :
    Calls Try.prog 19 #[.pointer (some ⟨sb, 0, none⟩), .string s] w fun e w' =>
      ∃ cb, e = .returned (.pointer (some ⟨cb, 0, none⟩)) ∧ B ≤ cb ∧ Box w' cb 54 #[.int .u64 0] ∧ Below B w w' := by
  have hsz : s.size ≤ maxLen := by have := hs.1; unfold maxLen; omega
  have hlk : look [] s.data.toList = none := rfl
  have hbl := h.box.lt
  have hml := h.map.lt
  obtain ⟨o1, ho1⟩ : ∃ o1 : Obj, o1 = .cells #[.int .u64 0] 54 := ⟨_, rfl⟩
  obtain ⟨o2, ho2⟩ : ∃ o2 : Obj, o2 = .cells #[.string s, .iface 41 (.pointer (some ⟨w.heap.size, 0, none⟩)), .bool false] 60 := ⟨_, rfl⟩
  have hmap1 : MapIs (w.alloc o1) mb [] := h.map.alloc _
  have hrun1 := hmap1.miss_ok s hsz hlk
  have hmap2 : MapIs ((w.alloc o1).alloc o2) mb [] := hmap1.alloc _
  obtain ⟨w1, hrun3, hmap3, hg3⟩ := hmap2.store ⟨w.heap.size + 1, w.heap.size, s, 0⟩ hsz hlk (by decide)
  simp only at hrun3
  have hbox1 : Box (w.alloc o1) sb 52 #[.slice none 0 0, .map (some mb), .bool false, .slice none 0 0] := h.box.alloc _
  have hbox2 : Box ((w.alloc o1).alloc o2) sb 52 #[.slice none 0 0, .map (some mb), .bool false, .slice none 0 0] := hbox1.alloc _
  have hnew1 : Box ((w.alloc o1).alloc o2) w.heap.size 54 #[.int .u64 0] := by rw [ho1]; exact (Box.made w _ _).alloc _
  have hbox3 := hbox2.grown hg3 (fun e => hmap2.apart hbox2 (by injection e))
  have hnew13 := hnew1.grown hg3 (fun e => hmap2.apart hnew1 (by injection e))
  have c0 := hbox1.cell 1
  have c1 := hbox2.cell 1
  have c2 := hbox3.cell 0
  simp at c0 c1 c2
  have hsz1 : w.heap.size + 2 ≤ w1.heap.size := by have := hg3.size; simpa using this
  have hboxX := hbox3.alloc (.cells #[.pointer (some ⟨w.heap.size + 1, 0, none⟩)] 56)
  have hnew1X := hnew13.alloc (.cells #[.pointer (some ⟨w.heap.size + 1, 0, none⟩)] 56)
  have hownX : (w1.alloc (.cells #[.pointer (some ⟨w.heap.size + 1, 0, none⟩)] 56)).ownsRow B 56 1 (.slice none 0 0) 0 [] := World.ownsRow_nil _ _ _ _
  have hbelX : Below B w (w1.alloc (.cells #[.pointer (some ⟨w.heap.size + 1, 0, none⟩)] 56)) := by
    refine Below.alloc ?_ (by omega) _
    refine Below.grown (((Below.refl B w).alloc hB o1).alloc (by simp; omega) o2) hg3 (by simp; omega) (fun k hk => ?_)
    cases hk
    exact h.mlo
  have HBELX := Lib.hid hbelX
  have HV := Lib.hid (fun W : World => validate_good s hs W)
  have HB3 := Lib.hid hboxX
  have HN1 := Lib.hid hnew1X
  have HO3 := Lib.hid hownX
  have hBw : B ≤ (w1.alloc (.cells #[.pointer (some ⟨w.heap.size + 1, 0, none⟩)] 56)).heap.size := by simp; omega
  have HBW := Lib.hid hBw
  obtain ⟨i0, hi, hz0, hz1, hz2⟩ := info_parts infoPtr
  have HSLO := Lib.hid h.slo
  clear h hs hmap1 hmap2 hmap3 hg3 hbox1 hbox2 hnew1 hbox3 hnew13 hboxX hnew1X hownX hbelX hlk hsz hBw hsz1
  subst ho1 ho2
  go_enter Try.func19, Try.ntmps19
  go_wp2_with fail
  go_enter Try.func26, Try.ntmps26
  go_wp2_with fail
  refine (HV.out _).mono ?_
  rintro e w' ⟨rfl, rfl⟩
  go_wp2_with fail
  go_enter Try.func32, Try.ntmps32
  go_wp2_with (at_builtin; refine wpList_append_own _ rfl _ _ 49 rfl B 56 i0 (.pointer none) 1 8 Try.underlying49 hi hz0 hz1 hz2 rfl (by decide) (.slice none 0 0) 0 [] rfl HO3.out ⟨w1.heap.size, 0, none⟩ 1 1 [.pointer (some ⟨w.heap.size + 1, 0, none⟩)] rfl rfl (cell_one_new _ _ _) (by simp [Value.oneCell']) (by decide) (by decide) HBW.out ?_; intro v' w2 hown2 hgrow2 _; obtain ⟨A', c', hv'⟩ := own_form hown2; rw [hv'] at hown2 ⊢; clear hv'; have hb2 := HB3.out.grown hgrow2 (by simp [Value.ownBlock]); have hn2 := HN1.out.grown hgrow2 (by simp [Value.ownBlock]); have HN2 := Lib.hid hn2; have d0 := hb2.cell 0; have f0 := hb2.free 0; simp at d0; have HB2 := Lib.hid hb2; have HG2 := Lib.hid hgrow2; clear hb2 hn2 hown2 hgrow2)
  go_end0
  go_wp2
  go_end0
  go_wp2
  go_ret
  exact ⟨w.heap.size, rfl, hB, HN2.out.aside (p := ⟨sb, 0, none⟩) (HN2.out.apart HB2.out (by decide)) _, (HBELX.out.grown HG2.out HBW.out (by simp [Value.ownBlock])).setCell HSLO.out _⟩

theorem take_sum (l : List Int) (k : Nat) (h : k < l.length) : (l.take (k + 1)).sum = (l.take k).sum + l[k] := by
  rw [List.take_succ_eq_append_getElem h, List.sum_append]
  simp
theorem addU_wrap (a b : Int) : addU (IntKind.u64.wrap a) b = IntKind.u64.wrap (a + b) := by
  unfold addU IntKind.wrap
  simp [IntKind.signed, IntKind.bits]

set_option maxRecDepth 100000 in
set_option maxHeartbeats 1000000 in
theorem counted_any (l : List Int) (A : Option Addr) (n c : Nat) (w : World) (hl : l.length = n) (hn : n ≤ 20) (L : Lies w w.heap.size A n (l.map (.int .i64))) :
    Calls Try.prog 13 #[.slice A n c] w fun e w' => e = .returned (.int .u64 (IntKind.u64.wrap l.sum)) ∧ Below w.heap.size w w' := by
  have HLIE := Lib.hid L
  clear L
  go_enter Try.func13, Try.ntmps13
  go_wp2_with fail
  refine (newSet w).mono ?_
  rintro e w1 ⟨sb, mb, rfl, hset, hb1⟩
  have HSET := Lib.hid hset
  have HB1 := Lib.hid hb1
  clear hset hb1
  go_wp2_with fail
  refine (newCounter w.heap.size sb mb ⟨#[99]⟩ w1 HSET.out goodC HB1.out.size).mono ?_
  rintro e w2 ⟨cb, rfl, hcb, hbx, hb2⟩
  have HBX := Lib.hid hbx
  have HB2 := Lib.hid (HB1.out.trans hb2)
  clear hbx hb2
  go_wp2
  go_loopw [10] (fun i wr => ∃ (k : Nat), k ≤ n ∧ i = .int .i64 k ∧ Box wr cb 54 #[.int .u64 (IntKind.u64.wrap (l.take k).sum)] ∧ Below w.heap.size w wr) (fun i _ => n - (intOf i).toNat)
  case atStart => exact ⟨0, Nat.zero_le _, rfl, HBX.out, HB2.out⟩
  case round =>
    obtain ⟨k, hk, rfl, hbx, hbel⟩ := hrel
    have HX := Lib.hid hbx
    have HB := Lib.hid hbel
    clear hbx hbel
    by_cases hlt : k < n
    · have hkl : k < l.length := by omega
      obtain ⟨b, off, ha, hb, hc⟩ := HLIE.out.2 (by omega)
      subst ha
      obtain ⟨m, hm⟩ : ∃ m, m = l[k] := ⟨_, rfl⟩
      have d1 : wr.cell? ⟨b, off + k, none⟩ = some (.int .i64 m) := by
        rw [HB.out.cell (p := ⟨b, off + k, none⟩) (by simpa using hb)]
        exact hc k _ (by rw [List.getElem?_map, List.getElem?_eq_getElem hkl, hm]; rfl)
      have HS := Lib.hid (show (l.take (k + 1)).sum = (l.take k).sum + m by rw [take_sum l k hkl, hm])
      have HC := Lib.hid hc
      clear hm hc
      go_wp2_with (go_at_call 20; refine (counterAdd cb _ m _ HX.out).mono ?_; rintro e w3 ⟨rfl, rfl⟩)
      go_roundw
      case rel =>
        refine ⟨k + 1, by omega, by go_num, ?_, HB.out.setCell hcb _⟩
        rw [HS.out, ← addU_wrap]
        have h := HX.out.stored 0 (.int .u64 (addU (IntKind.u64.wrap (l.take k).sum) m))
        simpa using h
      case measure => simp [intOf]; omega
    · have hks : k = n := by omega
      subst hks
      have HE := Lib.hid (show l.take k = l from List.take_of_length_le (by omega))
      go_wp2_with (go_at_call 21; refine (counterGet cb _ _ HX.out).mono ?_; rintro e w3 ⟨rfl, rfl⟩)
      go_ret
      refine ⟨?_, HB.out⟩
      rw [HE.out]
      rfl

theorem sum_bound (l : List Int) (h : ∀ z ∈ l, -128 ≤ z ∧ z ≤ 127) : ∀ k : Nat, -(128 * (k : Int)) ≤ (l.take k).sum ∧ (l.take k).sum ≤ 128 * (k : Int)
  | 0 => by simp
  | k + 1 => by
    have ih := sum_bound l h k
    by_cases hk : k < l.length
    · rw [take_sum l k hk]
      have := h _ (List.getElem_mem hk)
      omega
    · rw [List.take_of_length_le (by omega)] at ih ⊢
      omega

set_option maxRecDepth 100000 in
set_option maxHeartbeats 1000000 in
theorem sum_any (l : List Int) (A : Option Addr) (n c : Nat) (w : World) (hl : l.length = n) (hn : n ≤ 20) (hr : ∀ z ∈ l, -128 ≤ z ∧ z ≤ 127) (L : Lies w w.heap.size A n (l.map (.int .i64))) :
    Calls Try.prog 14 #[.slice A n c] w fun e w' => e = .returned (.int .i64 l.sum) ∧ w = w' := by
  have HLIE := Lib.hid L
  have HSB := Lib.hid (sum_bound l hr)
  have HR := Lib.hid hr
  clear L hr
  go_enter Try.func14, Try.ntmps14
  go_wp2
  go_loop [3, 8] (fun s i => ∃ (k : Nat), k ≤ n ∧ i = .int .i64 k ∧ s = .int .i64 (l.take k).sum) (fun _ i => n - (intOf i).toNat)
  case atStart => exact ⟨0, Nat.zero_le _, rfl, rfl⟩
  case round =>
    obtain ⟨k, hk, rfl, rfl⟩ := hrel
    by_cases hlt : k < n
    · have hkl : k < l.length := by omega
      obtain ⟨b, off, ha, hb, hc⟩ := HLIE.out.2 (by omega)
      subst ha
      obtain ⟨m, hm⟩ : ∃ m, m = l[k] := ⟨_, rfl⟩
      have d1 : w.cell? ⟨b, off + k, none⟩ = some (.int .i64 m) := hc k _ (by rw [List.getElem?_map, List.getElem?_eq_getElem hkl, hm]; rfl)
      have HS := Lib.hid (show (l.take (k + 1)).sum = (l.take k).sum + m by rw [take_sum l k hkl, hm])
      have hmr := HR.out m (by rw [hm]; exact List.getElem_mem hkl)
      have hsb := HSB.out k
      have HC := Lib.hid hc
      clear hm hc
      go_wp2
      go_round
      case rel => exact ⟨k + 1, by omega, by go_num, by rw [HS.out]⟩
      case measure => simp [intOf]; omega
    · have hks : k = n := by omega
      subst hks
      have HE := Lib.hid (show l.take k = l from List.take_of_length_le (by omega))
      go_wp2
      go_ret
      refine ⟨?_, rfl⟩
      rw [HE.out]
      rfl
end Go.Proofs.Ytlimibjmccbdlaa
