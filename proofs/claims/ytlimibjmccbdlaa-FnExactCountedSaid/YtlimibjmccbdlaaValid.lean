/-
  The law FnExactValid: spec.Signs, spec.Valid, impl.Valid, and the law's walk.
-/
import Derived.Test.YtlimibjmccbdlaaTagged
import Derived.Lib.SmallJoins
namespace Go.Proofs.Ytlimibjmccbdlaa
open Go.ChangeShapes Go.WideShapes Go.ChangeAt Go.RowKit

/-- WHAT THE WALK IS TOLD OF A SLICE OF INTEGERS THAT CAME IN. -/
def IsRow (k : IntKind) (w : World) (a : Option Addr) (len cap : Nat) (zs : List Int) : Prop :=
  (a = none ∧ len = 0 ∧ cap = 0 ∧ zs = []) ∨
  ∃ x, a = some x ∧ len ≤ cap ∧ cap ≤ maxLen ∧ zs.length = cap ∧ (∀ i, i < zs.length → w.cell? (x.add i) = some (.int k (zs.getD i 0))) ∧ ∀ n ∈ zs, (Lit.int k n).wf = true

theorem add_block (x : Addr) (k : Nat) : (x.add k).block = x.block := by
  unfold Addr.add
  split <;> rfl
theorem row_lt {w : World} {a : Option Addr} {len cap : Nat} {zs : List Int} (h : IsRow .u8 w a len cap zs) (hn : 0 < len) : ∀ x, a = some x → x.block < w.heap.size := by
  intro x hx
  rcases h with ⟨rfl, _⟩ | ⟨y, rfl, h1, _, h2, h3, _⟩
  · cases hx
  · injection hx with hx
    subst hx
    have h := h3 0 (by omega)
    rcases Nat.lt_or_ge y.block w.heap.size with hl | hl
    · exact hl
    · rw [World.cell?, show (y.add 0).block = y.block from add_block y 0, Array.getElem?_eq_none hl] at h
      cases h
def signL : List UInt8 := [97, 66, 95, 58, 122, 57, 49, 45, 37, 32]

/-- The string of a row of bytes of the call's own. -/
theorem convOwn (A : Option Addr) (n c : Nat) (l : List UInt8) (w : World) (B : Nat) (hn : l.length = n) (h : w.ownsRow B 5 1 (.slice A n c) n (l.map byteV)) :
    (convert 26 9 (.slice A n c)).run Try.prog w = .ok (.string ⟨l.toArray⟩) w := by
  rcases _root_.Go.Joins.ownsRow_forms h with ⟨hv, h0⟩ | ⟨g, cap, hv⟩
  · have hl : l = [] := List.length_eq_zero_iff.1 (hn.trans h0)
    subst hl
    rw [hv]
    exact convNil w
  · have ha : A = some ⟨g, 0, none⟩ := by injection hv
    have hc : c = cap := by injection hv
    subst ha
    subst hn
    clear hv hc
    exact run_convert_bytes_back (P := Try.prog) w 26 9 5 ⟨g, 0, none⟩ c l Try.underlying26 Try.underlying5 Try.underlying9 (fun j hj => by
      rw [h.cells (g := g) rfl j (byteV l[j]) (by simp [List.getElem?_eq_getElem hj])]
      rfl)

set_option maxRecDepth 100000 in
set_option maxHeartbeats 1000000 in
theorem signs_any (a : Option Addr) (len cap : Nat) (zs : List Int) (w : World) (h : IsRow .u8 w a len cap zs) (hlen : len ≤ 2147483647) :
    Calls Try.prog 9 #[.slice a len cap] w fun e w' => ∃ l : List UInt8, e = .returned (.string ⟨l.toArray⟩) ∧ l.length ≤ 6 ∧ (∀ c ∈ l, c ∈ signL) ∧ Below w.heap.size w w' := by
  obtain ⟨i0, hi, hz0, hz1, hz2⟩ := info_parts Try.infoByte
  have HR := Lib.hid h
  clear h
  go_enter Try.func9, Try.ntmps9
  go_wp2
  go_loopw [3, 4] (fun v i wr => ∃ (k : Nat) (l : List UInt8) (A : Option Addr) (c : Nat), k ≤ 6 ∧ k ≤ len ∧ l.length = k ∧ i = .int .i64 k ∧ (∀ c ∈ l, c ∈ signL) ∧ v = .slice A k c ∧ wr.ownsRow w.heap.size 5 1 (.slice A k c) k (l.map byteV) ∧ Below w.heap.size w wr) (fun _ i _ => 6 - (intOf i).toNat)
  case atStart => exact ⟨0, [], none, 0, by omega, by omega, rfl, rfl, by simp, rfl, World.ownsRow_nil _ _ _ _, Below.refl _ _⟩
  case round =>
    obtain ⟨k, l, A, c0, hk6, hkl, hll, rfl, hin, rfl, hown, hbel⟩ := hrel
    have HI := Lib.hid hin
    have HO := Lib.hid hown
    have HB := Lib.hid hbel
    have HL := Lib.hid hll
    clear hin hown hbel hll
    by_cases h1 : k < len
    · by_cases h2 : k < 6
      · obtain ⟨x, m, hx, hm, hm255, hxb⟩ : ∃ (x : Addr) (m : Nat), a = some x ∧ w.cell? (x.add k) = some (.int .u8 m) ∧ m ≤ 255 ∧ x.block < w.heap.size := by
          have hr := HR.out
          rcases hr with ⟨_, h0, _⟩ | ⟨x, rfl, hc1, _, hz, hcell, hwf⟩
          · omega
          · have hkz : k < zs.length := by omega
            obtain ⟨m, hm, hm2⟩ := wf_u8 (hwf (zs.getD k 0) (by rw [List.getD_eq_getElem?_getD, List.getElem?_eq_getElem hkz]; exact List.getElem_mem _))
            exact ⟨x, m, rfl, by rw [hcell k hkz, hm], hm2, row_lt HR.out (by omega) x rfl⟩
        subst hx
        have hcell : wr.cell? (x.add k) = some (.int .u8 m) := by rw [HB.out.cell (p := x.add k) (by rw [add_block]; exact hxb)]; exact hm
        obtain ⟨r, hr⟩ : ∃ r, r = m % 10 := ⟨_, rfl⟩
        have hmr : (m : Int) % 10 = (r : Int) := by omega
        have hr10 : r < (⟨#[97, 66, 95, 58, 122, 57, 49, 45, 37, 32]⟩ : ByteArray).size := by show r < 10; omega
        obtain ⟨ch, hch⟩ : ∃ ch, ch = (⟨#[97, 66, 95, 58, 122, 57, 49, 45, 37, 32]⟩ : ByteArray)[r] := ⟨_, rfl⟩
        have hmem : ch ∈ signL := by rw [hch]; exact List.getElem_mem (l := signL) hr10
        have HMEM := Lib.hid hmem
        have HCH := Lib.hid hch
        have HO2 := Lib.hid (HO.out.alloc (.cells #[byteV ch] 5))
        have hbs : w.heap.size ≤ (wr.alloc (.cells #[byteV ch] 5)).heap.size := by have := HB.out.size; simp; omega
        have HN := Lib.hid (fun j u (hu : ([ch].map byteV)[j]? = some u) => show (wr.alloc (.cells #[byteV ch] 5)).cell? ((⟨wr.heap.size, 0, none⟩ : Addr).add j) = some u by
          rw [Lib.add_plain, Nat.zero_add, World.cell?_alloc_mark]
          simpa using hu)
        clear hr hmem hch
        go_wp2_with (at_builtin; rw [← HCH.out]; refine wpList_append_own _ rfl _ _ 26 rfl w.heap.size 5 i0 (.int .u8 0) 1 1 Try.underlying26 hi hz0 hz1 hz2 rfl (by decide) (.slice A k c0) k (l.map byteV) rfl HO2.out ⟨wr.heap.size, 0, none⟩ 1 1 ([ch].map byteV) rfl (by simp) HN.out (bytes_oneCell [ch]) (by unfold maxLen; omega) (by omega) hbs ?_; intro v' w1 hown1 hgrow1 _; obtain ⟨A', c', hv'⟩ := own_form hown1; rw [hv'] at hown1 ⊢; clear hv'; have HG := Lib.hid hgrow1; have HO1 := Lib.hid hown1; clear hgrow1 hown1)
        go_roundw
        case rel =>
          refine ⟨k + 1, l ++ [ch], A', c', by omega, by omega, by simp [HL.out], by go_num, ?_, rfl, ?_, ?_⟩
          · intro c hc
            rcases List.mem_append.1 hc with hc | hc
            · exact HI.out c hc
            · rw [List.mem_singleton.1 hc]; exact HMEM.out
          · rw [List.map_append]; exact HO1.out
          · refine Below.grown (HB.out.alloc HB.out.size _) HG.out hbs (fun g hg => ?_)
            exact (HO2.out.lt g hg).1
        case measure => simp [intOf]; omega
      · have hk : k = 6 := by omega
        subst hk
        have hcv := convOwn A 6 c0 l wr w.heap.size HL.out HO.out
        go_wp2
        go_ret
        exact ⟨l, rfl, by rw [HL.out]; omega, HI.out, HB.out⟩
    · have hk : k = len := by omega
      subst hk
      have hcv := convOwn A k c0 l wr w.heap.size HL.out HO.out
      go_wp2
      go_ret
      exact ⟨l, rfl, by rw [HL.out]; omega, HI.out, HB.out⟩

/-- A text without a brace: let by where it is a plain name. -/
theorem validate_yes (s : ByteArray) (hs : s.size ≤ 1000) (h : identB s = true) (hno : (123 : UInt8) ∉ s.data.toList) (w : World) :
    Calls Try.prog 25 #[.string s] w fun e w' => e = .returned .nilIface ∧ w = w' :=
  validate_good s ⟨hs, s, h, hno, .inl rfl⟩ w
theorem validate_no (s : ByteArray) (hs : s.size ≤ 1000) (h : identB s = false) (hno : (123 : UInt8) ∉ s.data.toList) (w : World) :
    Calls Try.prog 25 #[.string s] w fun e w' => (∃ a, e = .returned (.iface 70 a)) ∧ Below w.heap.size w w' := by
  by_cases h0 : s.size = 0
  · have hz : ((s.size : Int) == 0) = true := by rw [h0]; rfl
    go_enter Try.func25, Try.ntmps25
    go_wp2_with (go_at_call 27; refine (errNew _ _).mono ?_; rintro e w' ⟨rfl, rfl⟩)
    go_ret
    exact ⟨⟨_, rfl⟩, (Below.refl _ _).alloc (Nat.le_refl _) _⟩
  · have HI : Hid _ := Lib.hid (fun W : World => Try.strings_IndexByte s 123 W)
    rw [index_absent (show (123 : Int).toNat.toUInt8 ∉ s.data.toList from hno)] at HI
    have ID := Lib.hid (fun W : World => validateIdent_no s W (by omega) h)
    have hz : ((s.size : Int) == 0) = false := beq_eq_false_iff_ne.2 (by omega)
    clear hno h
    go_enter Try.func25, Try.ntmps25
    go_wp2_with fail
    refine (HI.out _).mono ?_
    rintro e w' ⟨rfl, rfl⟩
    go_wp2_with fail
    refine (ID.out _).mono ?_
    rintro e w2 ⟨⟨a, rfl⟩, hb⟩
    go_wp2
    go_ret
    exact ⟨⟨_, rfl⟩, hb⟩
theorem implValid (s : ByteArray) (hs : s.size ≤ 1000) (hno : (123 : UInt8) ∉ s.data.toList) (w : World) :
    Calls Try.prog 10 #[.string s] w fun e w' => e = .returned (.bool (identB s)) ∧ Below w.heap.size w w' := by
  cases h : identB s with
  | true =>
    have HV := Lib.hid (fun W => validate_yes s hs h hno W)
    clear h hno
    go_enter Try.func10, Try.ntmps10
    go_wp2_with (go_at_call 17
                 go_enter Try.func17, Try.ntmps17
                 go_wp2_with (go_at_call 25; refine (HV.out _).mono ?_; rintro e w' ⟨rfl, rfl⟩))
    go_ret
    exact ⟨rfl, Below.refl _ _⟩
  | false =>
    have HV := Lib.hid (fun W => validate_no s hs h hno W)
    clear h hno
    go_enter Try.func10, Try.ntmps10
    go_wp2_with (go_at_call 17
                 go_enter Try.func17, Try.ntmps17
                 go_wp2_with (go_at_call 25; refine (HV.out _).mono ?_; rintro e w' ⟨⟨a, rfl⟩, hb⟩))
    go_ret
    exact ⟨rfl, hb⟩

set_option maxRecDepth 100000 in
set_option maxHeartbeats 4000000 in
theorem specValid (s : ByteArray) (hs : s.size ≤ 1000) (hno : ∀ i (h : i < s.size), s[i].toNat ≠ 46) (w : World) :
    Calls Try.prog 11 #[.string s] w fun e w' => e = .returned (.bool (identB s)) ∧ Below w.heap.size w w' := by
  obtain ⟨W, hW⟩ : ∃ W : World, W = w.drew.alloc (.cells (bytesRow s (grownCap w s.size 0 5)) 5 ((bytesRow s (grownCap w s.size 0 5)).size, (bytesRow s (grownCap w s.size 0 5)).size + 1)) := ⟨_, rfl⟩
  have hcell : ∀ k (h : k < s.size), W.cell? ⟨w.heap.size, k, none⟩ = some (.int .u8 s[k].toNat) := fun k h => by
    rw [hW]
    exact (World.cell?_alloc_mark w.drew _ _ _ k).trans (bytesRow_at s _ k _ (by rw [List.getElem?_map, List.getElem?_eq_getElem (by simpa using h)]; rfl))
  have hbel : Below w.heap.size w W := by rw [hW]; exact (Below.refl _ _).drew.alloc (Nat.le_refl _) _
  have hcv := run_bytes_of_string (P := Try.prog) w 9 26 5 s Try.underlying9 Try.underlying26 Try.underlying5
  rw [← hW] at hcv
  have HBEL := Lib.hid hbel
  have HNO := Lib.hid hno
  have HCELL := Lib.hid hcell
  clear hW hbel hno hcell
  generalize grownCap w s.size 0 5 = cap at hcv
  go_enter Try.func11, Try.ntmps11
  go_wp2
  go_loop [9] (fun i => ∃ k : Nat, k ≤ s.size ∧ i = .int .i64 k ∧ ∀ j (h : j < s.size), j < k → signAt j s[j] = true) (fun i => s.size - (intOf i).toNat)
  case atStart => exact ⟨0, Nat.zero_le _, rfl, fun j h hj => absurd hj (by omega)⟩
  case round =>
    obtain ⟨k, hk, rfl, hall⟩ := hrel
    have HA := Lib.hid hall
    clear hall
    by_cases hlt : k < s.size
    · have hd := HCELL.out k hlt
      have hne := HNO.out k hlt
      have HK := Lib.hid (show k = 0 ∨ 0 < k by omega)
      have HC := Lib.hid (classes s[k].toNat)
      rcases HK.out with hk0 | hk0
      · subst hk0
        clear HK
        rcases HC.out with ⟨h1, h2⟩ | ⟨h1, h2⟩ | ⟨h1, h2⟩ | ⟨h1, h2⟩ | ⟨h1, h2⟩ | ⟨h1, h2⟩ | h1 | ⟨h1, h2⟩ | ⟨h1, h2⟩ | ⟨h1, h2⟩ | ⟨h1, h2⟩ | h1
        all_goals first
          | (exfalso; omega)
          | skip
        all_goals
          clear HC
          go_wp2
          all_goals first
            | (have hv : signAt 0 s[0] = true := by unfold signAt; simp; omega
               go_round
               case rel => exact ⟨0 + 1, by omega, by go_num, sign_more HA.out hlt hv⟩
               case measure => simp [intOf]; omega)
            | (have hv : signAt 0 s[0] = false := by unfold signAt; simp; omega
               go_ret
               exact ⟨ret_bool (identB_bad hlt hv).symm, HBEL.out⟩)
            | (exfalso; rename_i hh; revert hh; simp; omega)
            | (exfalso; rename_i hh _; revert hh; simp; omega)
            | (exfalso; rename_i hh _ _; revert hh; simp; omega)
            | (exfalso; rename_i hh _ _ _; revert hh; simp; omega)
      · clear HK
        rcases HC.out with ⟨h1, h2⟩ | ⟨h1, h2⟩ | ⟨h1, h2⟩ | ⟨h1, h2⟩ | ⟨h1, h2⟩ | ⟨h1, h2⟩ | h1 | ⟨h1, h2⟩ | ⟨h1, h2⟩ | ⟨h1, h2⟩ | ⟨h1, h2⟩ | h1
        all_goals first
          | (exfalso; omega)
          | skip
        all_goals
          clear HC
          go_wp2
          all_goals first
            | (have hv : signAt k s[k] = true := by unfold signAt; simp; omega
               go_round
               case rel => exact ⟨k + 1, by omega, by go_num, sign_more HA.out hlt hv⟩
               case measure => simp [intOf]; omega)
            | (have hv : signAt k s[k] = false := by unfold signAt; simp; omega
               go_ret
               exact ⟨ret_bool (identB_bad hlt hv).symm, HBEL.out⟩)
            | (exfalso; rename_i hh; revert hh; simp; omega)
            | (exfalso; rename_i hh _; revert hh; simp; omega)
            | (exfalso; rename_i hh _ _; revert hh; simp; omega)
            | (exfalso; rename_i hh _ _ _; revert hh; simp; omega)
    · have hks : k = s.size := by omega
      subst hks
      by_cases h0 : s.size = 0
      · have HE := Lib.hid ((isEmpty_of_zero h0).trans (identB_empty h0).symm)
        clear h0
        go_wp2
        go_ret
        exact ⟨ret_bool HE.out, HBEL.out⟩
      · have HE := Lib.hid ((isEmpty_of_pos h0).trans (identB_good (by omega) HA.out).symm)
        clear h0
        go_wp2
        go_ret
        exact ⟨ret_bool HE.out, HBEL.out⟩
end Go.Proofs.Ytlimibjmccbdlaa
