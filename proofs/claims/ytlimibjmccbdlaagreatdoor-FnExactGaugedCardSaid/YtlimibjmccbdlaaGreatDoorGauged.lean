/-
  impl.Gauged: a gauge set, added to, counted up twice and down once.
-/
import Derived.Test.YtlimibjmccbdlaaGreatDoorGSet
namespace Go.Proofs.YtlimibjmccbdlaaGreatDoor
open Go.ChangeShapes Go.WideShapes Go.ChangeAt Go.RowKit

theorem goodG : GoodName ⟨#[103]⟩ := ⟨by decide, ⟨#[103]⟩, by decide, by decide, .inl rfl⟩

set_option maxRecDepth 100000 in
set_option maxHeartbeats 2000000 in
theorem implGauged (base : Int) (l : List Int) (A : Option Addr) (n c : Nat) (w : World) (hb1 : 10001 ≤ base) (hb2 : base ≤ 49999) (hl : l.length = n) (hn : n ≤ 20) (hr : ∀ z ∈ l, -128 ≤ z ∧ z ≤ 127) (L : Lies w w.heap.size A n (l.map (.int .i64)))
    (hB : 4 ≤ w.heap.size) (hp : Lib.TabIs Tryz.prog w "internal/strconv.uint64pow10" .u64 Lib.pow10Tab) :
    Calls Tryz.prog 7 #[.int .i64 base, .slice A n c] w fun e w' => e = .returned (.string ⟨(lineOf ⟨#[103]⟩ (Lib.decDigits (base + l.sum + 1).toNat)).toArray⟩) ∧ Below w.heap.size w w' := by
  have HLIE := Lib.hid L
  have HP := Lib.hid hp
  have HR := Lib.hid hr
  have HSB := Lib.hid (sum_bound l hr)
  have htab : ∀ g, Tryz.prog.globalNamed "internal/strconv.uint64pow10" = some g → g < w.heap.size := fun g hg => by
    have e : Tryz.prog.globalNamed "internal/strconv.uint64pow10" = some 0 := by kernel_rfl
    obtain rfl := Option.some.inj (hg.symm.trans e)
    omega
  have HTAB := Lib.hid htab
  clear L hp hr htab
  go_enter Tryz.func7, Tryz.ntmps7
  go_wp2_with fail
  refine (newSet w).mono ?_
  rintro e w1 ⟨sb, mb, rfl, hset, hbl1⟩
  have HSET := Lib.hid hset
  have HB1 := Lib.hid hbl1
  clear hset hbl1
  go_wp2_with fail
  refine (newGauge w.heap.size sb mb ⟨#[103]⟩ w1 HSET.out goodG HB1.out.size).mono ?_
  rintro e w2 ⟨nb, cb, cc, rfl, hcb, hgs, hbl2⟩
  have HGS := Lib.hid hgs
  have HB2 := Lib.hid (HB1.out.trans hbl2)
  clear hgs hbl2
  go_wp2_with fail
  refine (gaugeSet cb 0 base w2 HGS.out.held).mono ?_
  rintro e w3 ⟨rfl, hw3⟩
  have HG3 : Hid (GaugedSet w3 w.heap.size sb mb nb cb cc ⟨#[103]⟩ (.int .u64 (fw base))) := Lib.hid (by rw [hw3]; exact HGS.out.stored _)
  have HB3 : Hid (Below w.heap.size w w3) := Lib.hid (by rw [hw3]; exact HB2.out.setCell hcb _)
  clear hw3
  go_wp2
  go_loopw [18] (fun i wr => ∃ (k : Nat), k ≤ n ∧ i = .int .i64 k ∧ GaugedSet wr w.heap.size sb mb nb cb cc ⟨#[103]⟩ (.int .u64 (fw (base + (l.take k).sum))) ∧ Below w.heap.size w wr) (fun i _ => n - (intOf i).toNat)
  case atStart => exact ⟨0, Nat.zero_le _, rfl, by have h := HG3.out; simpa using h, HB3.out⟩
  case round =>
    obtain ⟨k, hk, rfl, hgs, hbel⟩ := hrel
    have HX := Lib.hid hgs
    have HB := Lib.hid hbel
    clear hgs hbel
    have hsb := HSB.out k
    by_cases hlt : k < n
    · have hkl : k < l.length := by omega
      obtain ⟨b, off, ha, hb, hc⟩ := HLIE.out.2 (by omega)
      subst ha
      obtain ⟨m, hm⟩ : ∃ m, m = l[k] := ⟨_, rfl⟩
      have d1 : wr.cell? ⟨b, off + k, none⟩ = some (.int .i64 m) := by
        rw [HB.out.cell (p := ⟨b, off + k, none⟩) (by simpa using hb)]
        exact hc k _ (by rw [List.getElem?_map, List.getElem?_eq_getElem hkl, hm]; rfl)
      have hmr := HR.out m (by rw [hm]; exact List.getElem_mem hkl)
      have HS := Lib.hid (show (l.take (k + 1)).sum = (l.take k).sum + m by rw [take_sum l k hkl, hm])
      have HC := Lib.hid hc
      clear hm hc
      go_wp2_with fail
      refine (gaugeAdd cb (base + (l.take k).sum) m wr HX.out.gauge (by omega) (by omega) (by omega)).mono ?_
      rintro e w4 ⟨rfl, hw4⟩
      have HW4 := Lib.hid hw4
      clear hw4
      go_wp2
      go_roundw
      case rel =>
        refine ⟨k + 1, by omega, by go_num, ?_, ?_⟩
        · rw [HW4.out, HS.out, ← Int.add_assoc]
          exact HX.out.stored _
        · rw [HW4.out]
          exact HB.out.setCell hcb _
      case measure => simp [intOf]; omega
    · have hks : k = n := by omega
      subst hks
      have hE : l.take k = l := List.take_of_length_le (by omega)
      rw [hE] at hsb
      have HX2 : Hid (GaugedSet wr w.heap.size sb mb nb cb cc ⟨#[103]⟩ (.int .u64 (fw (base + l.sum)))) := Lib.hid (by have h := HX.out; rw [hE] at h; exact h)
      obtain ⟨t, ht⟩ : ∃ t, t = base + l.sum := ⟨_, rfl⟩
      rw [← ht] at HX2 
      have htr : 7000 ≤ t ∧ t ≤ 60000 := by omega
      have HT := Lib.hid ht
      clear hE ht hsb
      go_wp2_with fail
      refine (gaugeInc cb t wr HX2.out.gauge (by omega) (by omega)).mono ?_
      rintro e w5 ⟨rfl, hw5⟩
      have HX5 : Hid (GaugedSet w5 w.heap.size sb mb nb cb cc ⟨#[103]⟩ (.int .u64 (fw (t + 1)))) := Lib.hid (by rw [hw5]; exact HX2.out.stored _)
      have HB5 : Hid (Below w.heap.size w w5) := Lib.hid (by rw [hw5]; exact HB.out.setCell hcb _)
      clear hw5
      go_wp2_with fail
      refine (gaugeInc cb (t + 1) w5 HX5.out.gauge (by omega) (by omega)).mono ?_
      rintro e w6 ⟨rfl, hw6⟩
      have HX6 : Hid (GaugedSet w6 w.heap.size sb mb nb cb cc ⟨#[103]⟩ (.int .u64 (fw (t + 1 + 1)))) := Lib.hid (by rw [hw6]; exact HX5.out.stored _)
      have HB6 : Hid (Below w.heap.size w w6) := Lib.hid (by rw [hw6]; exact HB5.out.setCell hcb _)
      clear hw6
      go_wp2_with fail
      refine (gaugeDec cb (t + 1 + 1) w6 HX6.out.gauge (by omega) (by omega)).mono ?_
      rintro e w7 ⟨rfl, hw7⟩
      obtain ⟨v, hv⟩ : ∃ v : Nat, v = (t + 1).toNat := ⟨_, rfl⟩
      have hvt : t + 1 + 1 + -1 = (v : Int) := by omega
      have HX7 : Hid (GaugedSet w7 w.heap.size sb mb nb cb cc ⟨#[103]⟩ (.int .u64 (fw v))) := Lib.hid (by rw [hw7, ← hvt]; exact HX6.out.stored _)
      have HB7 : Hid (Below w.heap.size w w7) := Lib.hid (by rw [hw7]; exact HB6.out.setCell hcb _)
      have HV := Lib.hid hv
      clear hw7 hv
      go_wp2_with fail
      refine (gaugeText w.heap.size sb mb nb cb cc ⟨#[103]⟩ v w7 HX7.out hB HB7.out.size (by decide) (by omega) (by omega) (tabIs_below HP.out HB7.out HTAB.out)).mono ?_
      rintro e w8 ⟨rfl, hb8⟩
      have HB8 := Lib.hid (HB7.out.trans hb8)
      clear hb8
      go_wp2
      go_ret
      refine ⟨?_, HB8.out⟩
      rw [← HT.out, ← HV.out]
      rfl
end Go.Proofs.YtlimibjmccbdlaaGreatDoor
