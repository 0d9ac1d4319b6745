/-
  spec.Names: the names that a text of bytes spells.
-/
import Derived.Test.YtlimibjmccbdlaaDoorWord
namespace Go.Proofs.YtlimibjmccbdlaaDoor
open Go.ChangeShapes Go.WideShapes Go.ChangeAt Go.RowKit

theorem Tryd.infoStr : (Tryd.prog.info? 9).map (fun i => (i.zero, i.size, i.bytes)) = some (some (.string ⟨#[]⟩), 1, 16) := by kernel_rfl

/-- One of 'a' to 'd'. -/
def letter (m : Nat) : UInt8 := (97 + m % 4).toUInt8
theorem letter_sign (m : Nat) : ∀ i, signAt i (letter m) = true := by
  have h : ∀ k, k < 4 → (97 ≤ (97 + k).toUInt8.toNat && (97 + k).toUInt8.toNat ≤ 122) = true := by decide
  intro i
  unfold signAt letter
  rw [h _ (Nat.mod_lt _ (by decide))]
  rfl
theorem letter_no (m : Nat) : (123 : UInt8) ≠ letter m := by
  have h : ∀ k, k < 4 → (123 : UInt8) ≠ (97 + k).toUInt8 := by decide
  exact h _ (Nat.mod_lt _ (by decide))
theorem letter_val (m : Nat) : ((letter m).toNat : Int) = 97 + (m : Int) % 4 := by
  unfold letter
  rw [UInt8.toNat_ofNat']
  omega
theorem good_one (a : Nat) : identB ⟨#[letter a]⟩ = true := identB_good (by show 0 < 1; omega) (fun j h _ => by
  have : j = 0 := by have : j < 1 := h; omega
  subst this
  exact letter_sign a 0)
theorem good_two (a b : Nat) : identB ⟨#[letter a, letter b]⟩ = true := identB_good (by show 0 < 2; omega) (fun j h _ => by
  have hj : j < 2 := h
  have : j = 0 ∨ j = 1 := by omega
  rcases this with rfl | rfl
  · exact letter_sign a 0
  · exact letter_sign b 1)
theorem no_one (a : Nat) : (123 : UInt8) ∉ (⟨#[letter a]⟩ : ByteArray).data.toList := by
  intro h
  exact letter_no a (List.mem_singleton.1 h)
theorem no_two (a b : Nat) : (123 : UInt8) ∉ (⟨#[letter a, letter b]⟩ : ByteArray).data.toList := by
  intro h
  rcases List.mem_cons.1 h with h | h
  · exact letter_no a h
  · exact letter_no b (List.mem_singleton.1 h)
/-- A digit of a tag. -/
def digit (m : Nat) : UInt8 := (48 + m % 4).toUInt8
theorem digit_cases (m : Nat) : digit m = 48 ∨ digit m = 49 ∨ digit m = 50 ∨ digit m = 51 := by
  have h : ∀ k, k < 4 → ((48 + k).toUInt8 = 48 ∨ (48 + k).toUInt8 = 49 ∨ (48 + k).toUInt8 = 50 ∨ (48 + k).toUInt8 = 51) := by decide
  exact h _ (Nat.mod_lt _ (by decide))
theorem digit_dec (m : Nat) : Lib.decDigits (m % 4) = [digit m] := by
  rw [Lib.decDigits_one (by have := Nat.mod_lt m (show 0 < 4 by decide); omega)]
  rfl
theorem digit_arr (m : Nat) : (⟨(Lib.decDigits (m % 4)).toArray⟩ : ByteArray) = ⟨#[digit m]⟩ := by rw [digit_dec]
theorem tagged_good (id : ByteArray) (m : Nat) (h1 : identB id = true) (h2 : (123 : UInt8) ∉ id.data.toList) (h3 : id.size ≤ 10) :
    GoodName (id ++ (⟨#[123, 116, 61, 34]⟩ ++ ⟨#[digit m]⟩ ++ ⟨#[34, 125]⟩)) := by
  refine ⟨?_, id, h1, h2, .inr ⟨digit m, digit_cases m, ?_⟩⟩
  · rw [ByteArray.size_append]
    show id.size + 7 ≤ 1000
    omega
  · simp only [ByteArray.data_append, Array.toList_append]
    rfl
theorem plain_good (id : ByteArray) (h1 : identB id = true) (h2 : (123 : UInt8) ∉ id.data.toList) (h3 : id.size ≤ 10) : GoodName id := ⟨by omega, id, h1, h2, .inl rfl⟩

theorem heap_alloc_one (w : World) (o : Obj) : (w.alloc o).heap.size = w.heap.size + 1 := by simp
theorem conv_one (g : Nat) (c : UInt8) (w : World) (h : w.cell? ⟨g, 0, none⟩ = some (byteV c)) : (convert 27 9 (.slice (some ⟨g, 0, none⟩) 1 1)).run Tryd.prog w = .ok (.string ⟨#[c]⟩) w :=
  run_convert_bytes_back (P := Tryd.prog) w 27 9 5 ⟨g, 0, none⟩ 1 [c] Tryd.underlying27 Tryd.underlying5 Tryd.underlying9 (fun j hj => by
    have : j = 0 := by have : j < 1 := hj; omega
    subst this
    exact h)

set_option maxRecDepth 100000 in
set_option maxHeartbeats 2000000 in
theorem names_any (a : Option Addr) (len cap : Nat) (zs : List Int) (w : World) (h : IsRow .u8 w a len cap zs) (hlen : len ≤ 2147483647) :
    Calls Tryd.prog 11 #[.slice a len cap] w fun e w' => ∃ (l : List ByteArray) (A : Option Addr) (n c : Nat), e = .returned (.slice A n c) ∧ l.length = n ∧ n ≤ 20 ∧ (∀ s ∈ l, GoodName s) ∧ (n = 0 → A = none) ∧
      w'.ownsRow w.heap.size 9 1 (.slice A n c) n (l.map .string) ∧ Below w.heap.size w w' := by
  obtain ⟨i0, hi, hz0, hz1, hz2⟩ := info_parts Tryd.infoStr
  have HR := Lib.hid h
  clear h
  go_enter Tryd.func11, Tryd.ntmps11
  go_wp2
  go_loopw [3, 4] (fun v i wr => ∃ (k : Nat) (l : List ByteArray) (A : Option Addr) (n c : Nat), k ≤ len + 1 ∧ n ≤ 20 ∧ l.length = n ∧ i = .int .i64 k ∧ (∀ s ∈ l, GoodName s) ∧ (n = 0 → A = none) ∧ v = .slice A n c ∧ wr.ownsRow w.heap.size 9 1 (.slice A n c) n (l.map .string) ∧ Below w.heap.size w wr) (fun _ i _ => len + 2 - (intOf i).toNat)
  case atStart => exact ⟨0, [], none, 0, 0, by omega, by omega, rfl, rfl, by simp, by simp, rfl, World.ownsRow_nil _ _ _ _, Below.refl _ _⟩
  case round =>
    obtain ⟨k, l, A, n, c0, hk6, hkl, hll, rfl, hin, hnil, rfl, hown, hbel⟩ := hrel
    have HI := Lib.hid hin
    have HO := Lib.hid hown
    have HB := Lib.hid hbel
    have HL := Lib.hid hll
    have HNIL := Lib.hid hnil
    clear hin hown hbel hll hnil
    by_cases h1 : k + 1 < len
    · by_cases h2 : n < 20
      · obtain ⟨x, m0, m1, hx, hm0, hm1, hm255, hm256, hxb⟩ : ∃ (x : Addr) (m0 m1 : Nat), a = some x ∧ w.cell? (x.add k) = some (.int .u8 m0) ∧ w.cell? (x.add (k + 1)) = some (.int .u8 m1) ∧ m0 ≤ 255 ∧ m1 ≤ 255 ∧ x.block < w.heap.size := by
          have hr := HR.out
          rcases hr with ⟨_, h0, _⟩ | ⟨x, rfl, hc1, _, hz, hcell, hwf⟩
          · omega
          · have hkz : k < zs.length := by omega
            have hkz1 : k + 1 < zs.length := by omega
            obtain ⟨m0, hm0, hm2⟩ := wf_u8 (hwf (zs.getD k 0) (by rw [List.getD_eq_getElem?_getD, List.getElem?_eq_getElem hkz]; exact List.getElem_mem _))
            obtain ⟨m1, hm1, hm3⟩ := wf_u8 (hwf (zs.getD (k + 1) 0) (by rw [List.getD_eq_getElem?_getD, List.getElem?_eq_getElem hkz1]; exact List.getElem_mem _))
            exact ⟨x, m0, m1, rfl, by rw [hcell k hkz, hm0], by rw [hcell (k + 1) hkz1, hm1], hm2, hm3, row_lt HR.out (by omega) x rfl⟩
        subst hx
        have hcell0 : wr.cell? (x.add k) = some (.int .u8 m0) := by rw [HB.out.cell (p := x.add k) (by rw [add_block]; exact hxb)]; exact hm0
        have hcell1 : wr.cell? (x.add (k + 1)) = some (.int .u8 m1) := by rw [HB.out.cell (p := x.add (k + 1)) (by rw [add_block]; exact hxb)]; exact hm1
        have hx1 : x.add (k + 1) = ⟨x.block, x.off + (k + 1), none⟩ := by simp [Addr.add]
        rw [hx1] at hcell1
        by_cases b0 : m0 / 4 % 2 = 1
        · have t0 : (((m0 : Int) / 4 % 2) == 1) = true := beq_iff_eq.2 (by omega)
          by_cases b1 : m1 % 3 = 0
          · have t1 : (((m1 : Int) % 3) == 0) = true := beq_iff_eq.2 (by omega)
            have hcv1 := conv_one wr.heap.size (letter m0) (wr.alloc (.cells #[.int .u8 (97 + (m0 : Int) % 4)] 5)) (by rw [World.cell?_alloc_mark]; unfold byteV; rw [letter_val]; rfl)
            have hp0 : (x.add k).block < wr.heap.size := by have := HB.out.size; rw [add_block]; omega
            have hp1 : (⟨x.block, x.off + (k + 1), none⟩ : Addr).block < wr.heap.size := by have := HB.out.size; show x.block < _; omega
            have hd0 := (((Below.refl wr.heap.size wr).alloc (Nat.le_refl _) (.cells #[.int .u8 (97 + (m0 : Int) % 4)] 5)).cell hp0).trans hcell0
            have hd1 := (((Below.refl wr.heap.size wr).alloc (Nat.le_refl _) (.cells #[.int .u8 (97 + (m0 : Int) % 4)] 5)).cell (p := ⟨x.block, x.off + (k + 1), none⟩) hp1).trans hcell1
            have hcv2 := conv_one (wr.heap.size + 1) (letter (m0 / 8)) ((wr.alloc (.cells #[.int .u8 (97 + (m0 : Int) % 4)] 5)).alloc (.cells #[.int .u8 (97 + (m0 : Int) / 8 % 4)] 5)) (by have h := World.cell?_alloc_mark (wr.alloc (.cells #[.int .u8 (97 + (m0 : Int) % 4)] 5)) #[.int .u8 (97 + (m0 : Int) / 8 % 4)] 5 (0, 0) 0; rw [heap_alloc_one] at h; rw [h]; unfold byteV; rw [letter_val]; rfl)
            have hd2 := ((((Below.refl wr.heap.size wr).alloc (Nat.le_refl _) (.cells #[.int .u8 (97 + (m0 : Int) % 4)] 5)).alloc (by simp) (.cells #[.int .u8 (97 + (m0 : Int) / 8 % 4)] 5)).cell (p := ⟨x.block, x.off + (k + 1), none⟩) hp1).trans hcell1
            have HIT : Hid (∀ W : World, Calls Tryd.prog 25 #[.int .i64 ((m1 / 3 % 4 : Nat) : Int)] W fun e w' => e = .returned (.string ⟨#[digit (m1 / 3)]⟩) ∧ w' = W) := Lib.hid (fun W => by rw [← digit_arr]; exact Tryd.strconv_Itoa_small (m1 / 3 % 4) (by omega) W)
            have hr4 : (m1 : Int) / 3 % 4 = ((m1 / 3 % 4 : Nat) : Int) := by omega
            have hr5 : m1 / 3 % 4 < 4 := Nat.mod_lt _ (by decide)
            generalize m1 / 3 % 4 = r at HIT hr4 hr5
            obtain ⟨s, hs⟩ : ∃ s, s = ((⟨#[letter m0]⟩ ++ ⟨#[letter (m0 / 8)]⟩ : ByteArray) ++ (⟨#[123, 116, 61, 34]⟩ ++ ⟨#[digit (m1 / 3)]⟩ ++ ⟨#[34, 125]⟩) : ByteArray) := ⟨_, rfl⟩
            have hgs : GoodName s := by rw [hs]; exact tagged_good (⟨#[letter m0]⟩ ++ ⟨#[letter (m0 / 8)]⟩ : ByteArray) (m1 / 3) (good_two m0 (m0 / 8)) (no_two m0 (m0 / 8)) (show 2 ≤ 10 by omega)
            have HG0 := Lib.hid hgs
            have HS := Lib.hid hs
            have HO2 := Lib.hid (((HO.out.alloc (.cells #[.int .u8 (97 + (m0 : Int) % 4)] 5)).alloc (.cells #[.int .u8 (97 + (m0 : Int) / 8 % 4)] 5)).alloc (.cells #[.string s] 9))
            have hbx : Below w.heap.size w ((wr.alloc (.cells #[.int .u8 (97 + (m0 : Int) % 4)] 5)).alloc (.cells #[.int .u8 (97 + (m0 : Int) / 8 % 4)] 5)) := ((HB.out.alloc HB.out.size (.cells #[.int .u8 (97 + (m0 : Int) % 4)] 5)).alloc (by have := HB.out.size; simp; omega) (.cells #[.int .u8 (97 + (m0 : Int) / 8 % 4)] 5))
            have hbs : w.heap.size ≤ (((wr.alloc (.cells #[.int .u8 (97 + (m0 : Int) % 4)] 5)).alloc (.cells #[.int .u8 (97 + (m0 : Int) / 8 % 4)] 5)).alloc (.cells #[.string s] 9)).heap.size := by have := hbx.size; simp at this ⊢; omega
            have HBX := Lib.hid (hbx.alloc hbx.size (.cells #[.string s] 9))
            have HSZ := Lib.hid (show (((wr.alloc (.cells #[.int .u8 (97 + (m0 : Int) % 4)] 5)).alloc (.cells #[.int .u8 (97 + (m0 : Int) / 8 % 4)] 5))).heap.size = wr.heap.size + 2 by simp)
            have HN := Lib.hid (fun j u (hu : [Value.string s][j]? = some u) => show (((wr.alloc (.cells #[.int .u8 (97 + (m0 : Int) % 4)] 5)).alloc (.cells #[.int .u8 (97 + (m0 : Int) / 8 % 4)] 5)).alloc (.cells #[.string s] 9)).cell? ((⟨wr.heap.size + 2, 0, none⟩ : Addr).add j) = some u by have h := World.cell?_alloc_mark ((wr.alloc (.cells #[.int .u8 (97 + (m0 : Int) % 4)] 5)).alloc (.cells #[.int .u8 (97 + (m0 : Int) / 8 % 4)] 5)) #[.string s] 9 (0, 0) j; rw [HSZ.out] at h; rw [Lib.add_plain, Nat.zero_add, h]; simpa using hu)
            clear hgs hs hbx hp0 hp1
            go_wp2_with fail
            refine (HIT.out _).mono ?_
            rintro e w' ⟨rfl, rfl⟩
            go_wp2_with (at_builtin; rw [← HS.out]; refine wpList_append_own _ rfl _ _ 28 rfl w.heap.size 9 i0 (.string ⟨#[]⟩) 1 16 Tryd.underlying28 hi hz0 hz1 hz2 rfl (by decide) (.slice A n c0) n (l.map .string) rfl HO2.out ⟨wr.heap.size + 2, 0, none⟩ 1 1 [.string s] rfl rfl HN.out (by simp [Value.oneCell']) (by unfold maxLen; omega) (by omega) hbs ?_; intro v' w1 hown1 hgrow1 _; obtain ⟨A', c', hv'⟩ := own_form hown1; rw [hv'] at hown1 ⊢; clear hv'; have HG := Lib.hid hgrow1; have HO1 := Lib.hid hown1; clear hgrow1 hown1)
            go_roundw
            case rel =>
              refine ⟨k + 2, l ++ [s], A', n + 1, c', by omega, by omega, by simp [HL.out], by go_num, ?_, by simp, rfl, ?_, ?_⟩
              · intro c hc
                rcases List.mem_append.1 hc with hc | hc
                · exact HI.out c hc
                · rw [List.mem_singleton.1 hc]; exact HG0.out
              · rw [List.map_append]; exact HO1.out
              · exact HBX.out.grown HG.out hbs (fun g hg => (HO2.out.lt g hg).1)
            case measure => simp [intOf]; omega
          · have t1 : (((m1 : Int) % 3) == 0) = false := beq_eq_false_iff_ne.2 (by omega)
            have hcv1 := conv_one wr.heap.size (letter m0) (wr.alloc (.cells #[.int .u8 (97 + (m0 : Int) % 4)] 5)) (by rw [World.cell?_alloc_mark]; unfold byteV; rw [letter_val]; rfl)
            have hp0 : (x.add k).block < wr.heap.size := by have := HB.out.size; rw [add_block]; omega
            have hp1 : (⟨x.block, x.off + (k + 1), none⟩ : Addr).block < wr.heap.size := by have := HB.out.size; show x.block < _; omega
            have hd0 := (((Below.refl wr.heap.size wr).alloc (Nat.le_refl _) (.cells #[.int .u8 (97 + (m0 : Int) % 4)] 5)).cell hp0).trans hcell0
            have hd1 := (((Below.refl wr.heap.size wr).alloc (Nat.le_refl _) (.cells #[.int .u8 (97 + (m0 : Int) % 4)] 5)).cell (p := ⟨x.block, x.off + (k + 1), none⟩) hp1).trans hcell1
            have hcv2 := conv_one (wr.heap.size + 1) (letter (m0 / 8)) ((wr.alloc (.cells #[.int .u8 (97 + (m0 : Int) % 4)] 5)).alloc (.cells #[.int .u8 (97 + (m0 : Int) / 8 % 4)] 5)) (by have h := World.cell?_alloc_mark (wr.alloc (.cells #[.int .u8 (97 + (m0 : Int) % 4)] 5)) #[.int .u8 (97 + (m0 : Int) / 8 % 4)] 5 (0, 0) 0; rw [heap_alloc_one] at h; rw [h]; unfold byteV; rw [letter_val]; rfl)
            have hd2 := ((((Below.refl wr.heap.size wr).alloc (Nat.le_refl _) (.cells #[.int .u8 (97 + (m0 : Int) % 4)] 5)).alloc (by simp) (.cells #[.int .u8 (97 + (m0 : Int) / 8 % 4)] 5)).cell (p := ⟨x.block, x.off + (k + 1), none⟩) hp1).trans hcell1
            obtain ⟨s, hs⟩ : ∃ s, s = (⟨#[letter m0]⟩ ++ ⟨#[letter (m0 / 8)]⟩ : ByteArray) := ⟨_, rfl⟩
            have hgs : GoodName s := by rw [hs]; exact plain_good (⟨#[letter m0]⟩ ++ ⟨#[letter (m0 / 8)]⟩ : ByteArray) (good_two m0 (m0 / 8)) (no_two m0 (m0 / 8)) (show 2 ≤ 10 by omega)
            have HG0 := Lib.hid hgs
            have HS := Lib.hid hs
            have HO2 := Lib.hid (((HO.out.alloc (.cells #[.int .u8 (97 + (m0 : Int) % 4)] 5)).alloc (.cells #[.int .u8 (97 + (m0 : Int) / 8 % 4)] 5)).alloc (.cells #[.string s] 9))
            have hbx : Below w.heap.size w ((wr.alloc (.cells #[.int .u8 (97 + (m0 : Int) % 4)] 5)).alloc (.cells #[.int .u8 (97 + (m0 : Int) / 8 % 4)] 5)) := ((HB.out.alloc HB.out.size (.cells #[.int .u8 (97 + (m0 : Int) % 4)] 5)).alloc (by have := HB.out.size; simp; omega) (.cells #[.int .u8 (97 + (m0 : Int) / 8 % 4)] 5))
            have hbs : w.heap.size ≤ (((wr.alloc (.cells #[.int .u8 (97 + (m0 : Int) % 4)] 5)).alloc (.cells #[.int .u8 (97 + (m0 : Int) / 8 % 4)] 5)).alloc (.cells #[.string s] 9)).heap.size := by have := hbx.size; simp at this ⊢; omega
            have HBX := Lib.hid (hbx.alloc hbx.size (.cells #[.string s] 9))
            have HSZ := Lib.hid (show (((wr.alloc (.cells #[.int .u8 (97 + (m0 : Int) % 4)] 5)).alloc (.cells #[.int .u8 (97 + (m0 : Int) / 8 % 4)] 5))).heap.size = wr.heap.size + 2 by simp)
            have HN := Lib.hid (fun j u (hu : [Value.string s][j]? = some u) => show (((wr.alloc (.cells #[.int .u8 (97 + (m0 : Int) % 4)] 5)).alloc (.cells #[.int .u8 (97 + (m0 : Int) / 8 % 4)] 5)).alloc (.cells #[.string s] 9)).cell? ((⟨wr.heap.size + 2, 0, none⟩ : Addr).add j) = some u by have h := World.cell?_alloc_mark ((wr.alloc (.cells #[.int .u8 (97 + (m0 : Int) % 4)] 5)).alloc (.cells #[.int .u8 (97 + (m0 : Int) / 8 % 4)] 5)) #[.string s] 9 (0, 0) j; rw [HSZ.out] at h; rw [Lib.add_plain, Nat.zero_add, h]; simpa using hu)
            clear hgs hs hbx hp0 hp1
            go_wp2_with (at_builtin; rw [← HS.out]; refine wpList_append_own _ rfl _ _ 28 rfl w.heap.size 9 i0 (.string ⟨#[]⟩) 1 16 Tryd.underlying28 hi hz0 hz1 hz2 rfl (by decide) (.slice A n c0) n (l.map .string) rfl HO2.out ⟨wr.heap.size + 2, 0, none⟩ 1 1 [.string s] rfl rfl HN.out (by simp [Value.oneCell']) (by unfold maxLen; omega) (by omega) hbs ?_; intro v' w1 hown1 hgrow1 _; obtain ⟨A', c', hv'⟩ := own_form hown1; rw [hv'] at hown1 ⊢; clear hv'; have HG := Lib.hid hgrow1; have HO1 := Lib.hid hown1; clear hgrow1 hown1)
            go_roundw
            case rel =>
              refine ⟨k + 2, l ++ [s], A', n + 1, c', by omega, by omega, by simp [HL.out], by go_num, ?_, by simp, rfl, ?_, ?_⟩
              · intro c hc
                rcases List.mem_append.1 hc with hc | hc
                · exact HI.out c hc
                · rw [List.mem_singleton.1 hc]; exact HG0.out
              · rw [List.map_append]; exact HO1.out
              · exact HBX.out.grown HG.out hbs (fun g hg => (HO2.out.lt g hg).1)
            case measure => simp [intOf]; omega
        · have t0 : (((m0 : Int) / 4 % 2) == 1) = false := beq_eq_false_iff_ne.2 (by omega)
          by_cases b1 : m1 % 3 = 0
          · have t1 : (((m1 : Int) % 3) == 0) = true := beq_iff_eq.2 (by omega)
            have hcv1 := conv_one wr.heap.size (letter m0) (wr.alloc (.cells #[.int .u8 (97 + (m0 : Int) % 4)] 5)) (by rw [World.cell?_alloc_mark]; unfold byteV; rw [letter_val]; rfl)
            have hp0 : (x.add k).block < wr.heap.size := by have := HB.out.size; rw [add_block]; omega
            have hp1 : (⟨x.block, x.off + (k + 1), none⟩ : Addr).block < wr.heap.size := by have := HB.out.size; show x.block < _; omega
            have hd0 := (((Below.refl wr.heap.size wr).alloc (Nat.le_refl _) (.cells #[.int .u8 (97 + (m0 : Int) % 4)] 5)).cell hp0).trans hcell0
            have hd1 := (((Below.refl wr.heap.size wr).alloc (Nat.le_refl _) (.cells #[.int .u8 (97 + (m0 : Int) % 4)] 5)).cell (p := ⟨x.block, x.off + (k + 1), none⟩) hp1).trans hcell1
            have HIT : Hid (∀ W : World, Calls Tryd.prog 25 #[.int .i64 ((m1 / 3 % 4 : Nat) : Int)] W fun e w' => e = .returned (.string ⟨#[digit (m1 / 3)]⟩) ∧ w' = W) := Lib.hid (fun W => by rw [← digit_arr]; exact Tryd.strconv_Itoa_small (m1 / 3 % 4) (by omega) W)
            have hr4 : (m1 : Int) / 3 % 4 = ((m1 / 3 % 4 : Nat) : Int) := by omega
            have hr5 : m1 / 3 % 4 < 4 := Nat.mod_lt _ (by decide)
            generalize m1 / 3 % 4 = r at HIT hr4 hr5
            obtain ⟨s, hs⟩ : ∃ s, s = ((⟨#[letter m0]⟩ : ByteArray) ++ (⟨#[123, 116, 61, 34]⟩ ++ ⟨#[digit (m1 / 3)]⟩ ++ ⟨#[34, 125]⟩) : ByteArray) := ⟨_, rfl⟩
            have hgs : GoodName s := by rw [hs]; exact tagged_good (⟨#[letter m0]⟩ : ByteArray) (m1 / 3) (good_one m0) (no_one m0) (show 1 ≤ 10 by omega)
            have HG0 := Lib.hid hgs
            have HS := Lib.hid hs
            have HO2 := Lib.hid ((HO.out.alloc (.cells #[.int .u8 (97 + (m0 : Int) % 4)] 5)).alloc (.cells #[.string s] 9))
            have hbx : Below w.heap.size w (wr.alloc (.cells #[.int .u8 (97 + (m0 : Int) % 4)] 5)) := (HB.out.alloc HB.out.size (.cells #[.int .u8 (97 + (m0 : Int) % 4)] 5))
            have hbs : w.heap.size ≤ ((wr.alloc (.cells #[.int .u8 (97 + (m0 : Int) % 4)] 5)).alloc (.cells #[.string s] 9)).heap.size := by have := hbx.size; simp at this ⊢; omega
            have HBX := Lib.hid (hbx.alloc hbx.size (.cells #[.string s] 9))
            have HSZ := Lib.hid (show ((wr.alloc (.cells #[.int .u8 (97 + (m0 : Int) % 4)] 5))).heap.size = wr.heap.size + 1 by simp)
            have HN := Lib.hid (fun j u (hu : [Value.string s][j]? = some u) => show ((wr.alloc (.cells #[.int .u8 (97 + (m0 : Int) % 4)] 5)).alloc (.cells #[.string s] 9)).cell? ((⟨wr.heap.size + 1, 0, none⟩ : Addr).add j) = some u by have h := World.cell?_alloc_mark (wr.alloc (.cells #[.int .u8 (97 + (m0 : Int) % 4)] 5)) #[.string s] 9 (0, 0) j; rw [HSZ.out] at h; rw [Lib.add_plain, Nat.zero_add, h]; simpa using hu)
            clear hgs hs hbx hp0 hp1
            go_wp2_with fail
            refine (HIT.out _).mono ?_
            rintro e w' ⟨rfl, rfl⟩
            go_wp2_with (at_builtin; rw [← HS.out]; refine wpList_append_own _ rfl _ _ 28 rfl w.heap.size 9 i0 (.string ⟨#[]⟩) 1 16 Tryd.underlying28 hi hz0 hz1 hz2 rfl (by decide) (.slice A n c0) n (l.map .string) rfl HO2.out ⟨wr.heap.size + 1, 0, none⟩ 1 1 [.string s] rfl rfl HN.out (by simp [Value.oneCell']) (by unfold maxLen; omega) (by omega) hbs ?_; intro v' w1 hown1 hgrow1 _; obtain ⟨A', c', hv'⟩ := own_form hown1; rw [hv'] at hown1 ⊢; clear hv'; have HG := Lib.hid hgrow1; have HO1 := Lib.hid hown1; clear hgrow1 hown1)
            go_roundw
            case rel =>
              refine ⟨k + 2, l ++ [s], A', n + 1, c', by omega, by omega, by simp [HL.out], by go_num, ?_, by simp, rfl, ?_, ?_⟩
              · intro c hc
                rcases List.mem_append.1 hc with hc | hc
                · exact HI.out c hc
                · rw [List.mem_singleton.1 hc]; exact HG0.out
              · rw [List.map_append]; exact HO1.out
              · exact HBX.out.grown HG.out hbs (fun g hg => (HO2.out.lt g hg).1)
            case measure => simp [intOf]; omega
          · have t1 : (((m1 : Int) % 3) == 0) = false := beq_eq_false_iff_ne.2 (by omega)
            have hcv1 := conv_one wr.heap.size (letter m0) (wr.alloc (.cells #[.int .u8 (97 + (m0 : Int) % 4)] 5)) (by rw [World.cell?_alloc_mark]; unfold byteV; rw [letter_val]; rfl)
            have hp0 : (x.add k).block < wr.heap.size := by have := HB.out.size; rw [add_block]; omega
            have hp1 : (⟨x.block, x.off + (k + 1), none⟩ : Addr).block < wr.heap.size := by have := HB.out.size; show x.block < _; omega
            have hd0 := (((Below.refl wr.heap.size wr).alloc (Nat.le_refl _) (.cells #[.int .u8 (97 + (m0 : Int) % 4)] 5)).cell hp0).trans hcell0
            have hd1 := (((Below.refl wr.heap.size wr).alloc (Nat.le_refl _) (.cells #[.int .u8 (97 + (m0 : Int) % 4)] 5)).cell (p := ⟨x.block, x.off + (k + 1), none⟩) hp1).trans hcell1
            obtain ⟨s, hs⟩ : ∃ s, s = (⟨#[letter m0]⟩ : ByteArray) := ⟨_, rfl⟩
            have hgs : GoodName s := by rw [hs]; exact plain_good (⟨#[letter m0]⟩ : ByteArray) (good_one m0) (no_one m0) (show 1 ≤ 10 by omega)
            have HG0 := Lib.hid hgs
            have HS := Lib.hid hs
            have HO2 := Lib.hid ((HO.out.alloc (.cells #[.int .u8 (97 + (m0 : Int) % 4)] 5)).alloc (.cells #[.string s] 9))
            have hbx : Below w.heap.size w (wr.alloc (.cells #[.int .u8 (97 + (m0 : Int) % 4)] 5)) := (HB.out.alloc HB.out.size (.cells #[.int .u8 (97 + (m0 : Int) % 4)] 5))
            have hbs : w.heap.size ≤ ((wr.alloc (.cells #[.int .u8 (97 + (m0 : Int) % 4)] 5)).alloc (.cells #[.string s] 9)).heap.size := by have := hbx.size; simp at this ⊢; omega
            have HBX := Lib.hid (hbx.alloc hbx.size (.cells #[.string s] 9))
            have HSZ := Lib.hid (show ((wr.alloc (.cells #[.int .u8 (97 + (m0 : Int) % 4)] 5))).heap.size = wr.heap.size + 1 by simp)
            have HN := Lib.hid (fun j u (hu : [Value.string s][j]? = some u) => show ((wr.alloc (.cells #[.int .u8 (97 + (m0 : Int) % 4)] 5)).alloc (.cells #[.string s] 9)).cell? ((⟨wr.heap.size + 1, 0, none⟩ : Addr).add j) = some u by have h := World.cell?_alloc_mark (wr.alloc (.cells #[.int .u8 (97 + (m0 : Int) % 4)] 5)) #[.string s] 9 (0, 0) j; rw [HSZ.out] at h; rw [Lib.add_plain, Nat.zero_add, h]; simpa using hu)
            clear hgs hs hbx hp0 hp1
            go_wp2_with (at_builtin; rw [← HS.out]; refine wpList_append_own _ rfl _ _ 28 rfl w.heap.size 9 i0 (.string ⟨#[]⟩) 1 16 Tryd.underlying28 hi hz0 hz1 hz2 rfl (by decide) (.slice A n c0) n (l.map .string) rfl HO2.out ⟨wr.heap.size + 1, 0, none⟩ 1 1 [.string s] rfl rfl HN.out (by simp [Value.oneCell']) (by unfold maxLen; omega) (by omega) hbs ?_; intro v' w1 hown1 hgrow1 _; obtain ⟨A', c', hv'⟩ := own_form hown1; rw [hv'] at hown1 ⊢; clear hv'; have HG := Lib.hid hgrow1; have HO1 := Lib.hid hown1; clear hgrow1 hown1)
            go_roundw
            case rel =>
              refine ⟨k + 2, l ++ [s], A', n + 1, c', by omega, by omega, by simp [HL.out], by go_num, ?_, by simp, rfl, ?_, ?_⟩
              · intro c hc
                rcases List.mem_append.1 hc with hc | hc
                · exact HI.out c hc
                · rw [List.mem_singleton.1 hc]; exact HG0.out
              · rw [List.map_append]; exact HO1.out
              · exact HBX.out.grown HG.out hbs (fun g hg => (HO2.out.lt g hg).1)
            case measure => simp [intOf]; omega
      · have hn : n = 20 := by omega
        subst hn
        go_wp2
        go_ret
        exact ⟨l, A, _, c0, rfl, HL.out, by omega, HI.out, HNIL.out, HO.out, HB.out⟩
    · go_wp2
      go_ret
      exact ⟨l, A, _, c0, rfl, HL.out, by omega, HI.out, HNIL.out, HO.out, HB.out⟩
end Go.Proofs.YtlimibjmccbdlaaDoor
