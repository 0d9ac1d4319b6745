/-
  impl.Dropped, spec.SameTruths.
-/
import Derived.Test.YtlimibjmccbdlaaDoorUnreg
namespace Go.Proofs.YtlimibjmccbdlaaDoor
open Go.ChangeShapes Go.WideShapes Go.ChangeAt Go.RowKit

theorem Tryd.infoBool : (Tryd.prog.info? 4).map (fun i => (i.zero, i.size, i.bytes)) = some (some (.bool false), 1, 1) := by kernel_rfl

/-- What the j-th taking away says. -/
def truth (N D : List (List UInt8)) (j : Nat) : Bool := decide (D.getD j [] ∈ N ∧ D.getD j [] ∉ D.take j)
/-- The first k answers. -/
def Truths (N D : List (List UInt8)) (k : Nat) (bs : List Bool) : Prop := bs = (List.range k).map (truth N D)
theorem Truths.snoc {N D : List (List UInt8)} {k : Nat} {bs : List Bool} (h : Truths N D k bs) : Truths N D (k + 1) (bs ++ [truth N D k]) := by
  unfold Truths at *
  rw [h, List.range_succ, List.map_append]
  rfl

theorem own_two {w : World} {b1 b2 : Nat} {e1 e2 : TypeId} {s1 s2 n1 n2 : Nat} {v1 v2 : Value} {x1 x2 : List Value} (h1 : w.ownsRow b1 e1 s1 v1 n1 x1) (h2 : w.ownsRow b2 e2 s2 v2 n2 x2) (hne : e1 ≠ e2) : v1.ownBlock = none ∨ v1.ownBlock ≠ v2.ownBlock := by
  rcases h1.2 with ⟨rfl, _⟩ | ⟨g, cap, cur, rfl, _, hg, _⟩
  · exact .inl rfl
  · refine .inr (fun he => ?_)
    have : v2.ownBlock = some g := he.symm
    exact own_apart h2 (t := e1) (cs := cur) hg (fun e => hne e.symm) this

section
variable {w w' : World} {B sb mb : Nat} {sv : Value} {es : List Met}
theorem SetAt.alloc (h : SetAt w B sb mb sv es) (o : Obj) : SetAt (w.alloc o) B sb mb sv es := ⟨h.box.alloc o, h.own.alloc o, h.map.alloc o, fun e he => (h.met e he).alloc o, h.slo, h.mlo, h.names⟩
/-- Behind a write into a row of another type. -/
theorem SetAt.beside (h : SetAt w B sb mb sv es) {base : Nat} {e : TypeId} {size n : Nat} {v : Value} {xs : List Value} (ho : w.ownsRow base e size v n xs) (hg : w.grownBy w' v.ownBlock) (h1 : e ≠ 68) (h2 : e ≠ 69) (h3 : e ≠ 78) (h4 : e ≠ 74) : SetAt w' B sb mb sv es :=
  ⟨h.box.grown hg (own_apart' ho h.box h1), h.own.kept hg (own_two h.own ho (fun x => h2 x.symm)), h.map.kept hg (fun x => h.map.own_apart ho x.symm),
    fun x hx => (h.met x hx).kept hg (own_apart' ho (h.met x hx).named h3) (own_apart' ho (h.met x hx).held h4), h.slo, h.mlo, h.names⟩
end

theorem own_keep {w w' : World} {B n : Nat} {v : Value} {xs : List Value} (h : w.ownsRow B 4 1 v n xs)
    (hk : ∀ (k : Nat) (t : TypeId) (cs : Array Value), Box w k t cs → t ≠ 69 → t ≠ 68 → Box w' k t cs) : w'.ownsRow B 4 1 v n xs := by
  rcases h.2 with ⟨rfl, h0⟩ | ⟨g, cap, cur, rfl, hb, hg, r⟩
  · exact ⟨h.1, .inl ⟨rfl, h0⟩⟩
  · exact ⟨h.1, .inr ⟨g, cap, cur, rfl, hb, hk g _ cur hg (by decide) (by decide), r⟩⟩
theorem mem_without {pre post : List Met} {e0 : Met} (hn : ((pre ++ e0 :: post).map (·.name)).Nodup) (x : List UInt8) :
    x ∈ (pre ++ post).map (·.name.data.toList) ↔ x ∈ (pre ++ e0 :: post).map (·.name.data.toList) ∧ ¬ x = e0.name.data.toList := by
  have h1 := look_without hn x
  rw [← look_names, ← look_names, h1]
  by_cases hx : e0.name.data.toList = x
  · rw [if_pos hx]
    simp [hx]
  · rw [if_neg hx]
    constructor
    · intro h
      exact ⟨h, fun e => hx e.symm⟩
    · exact fun h => h.1

set_option maxRecDepth 100000 in
set_option maxHeartbeats 4000000 in
theorem implDropped (names drops : List ByteArray) (A1 A2 : Option Addr) (c1 c2 n m : Nat) (w : World) (h1 : names.length = n) (h20 : n ≤ 20) (good : ∀ s ∈ names, GoodName s) (L1 : Lies w w.heap.size A1 n (names.map .string))
    (h2 : drops.length = m) (hm20 : m ≤ 20) (good2 : ∀ s ∈ drops, GoodName s) (L2 : Lies w w.heap.size A2 m (drops.map .string)) :
    Calls Tryd.prog 18 #[.slice A1 n c1, .slice A2 m c2] w fun e w' => ∃ (A3 A4 : Option Addr) (k3 c3 c4 : Nat) (l : List (List UInt8)) (bs : List Bool), e = .returned (.tuple #[.slice A3 k3 c3, .slice A4 m c4]) ∧
      l.length = k3 ∧ k3 ≤ 20 ∧ l.Pairwise (· < ·) ∧ (∀ x, x ∈ l ↔ x ∈ names.map (·.data.toList) ∧ x ∉ drops.map (·.data.toList)) ∧ Lies w' w'.heap.size A3 k3 (l.map encStr) ∧
      Truths (names.map (·.data.toList)) (drops.map (·.data.toList)) m bs ∧ Lies w' w'.heap.size A4 m (bs.map .bool) ∧ Below w.heap.size w w' := by
  obtain ⟨i0, hi, hz0, hz1, hz2⟩ := info_parts Tryd.infoBool
  have HS := Lib.hid (implSet names A1 c1 n w h1 h20 good L1)
  have HL2 := Lib.hid L2
  have HG2 := Lib.hid good2
  have H2 := Lib.hid h2
  obtain ⟨N, hN⟩ : ∃ N, N = names.map (·.data.toList) := ⟨_, rfl⟩
  obtain ⟨D, hD⟩ : ∃ D, D = drops.map (·.data.toList) := ⟨_, rfl⟩
  rw [← hN, ← hD]
  have HNN := Lib.hid hN
  have HDD := Lib.hid hD
  clear good L1 L2 good2 h2 hN hD
  go_enter Tryd.func18, Tryd.ntmps18
  go_wp2_with fail
  refine HS.out.mono ?_
  rintro e w1 ⟨sb, mb, sv1, es1, rfl, hset, hmem, hel, hb1⟩
  have HSET := Lib.hid hset.at
  have HMEM : Hid (∀ x, x ∈ es1.map (·.name.data.toList) ↔ x ∈ N) := Lib.hid (fun x => by
    rw [HNN.out]
    constructor
    · intro h
      obtain ⟨e, he, rfl⟩ := List.mem_map.1 h
      exact List.mem_map.2 ⟨e.name, (hmem _).1 (List.mem_map.2 ⟨e, he, rfl⟩), rfl⟩
    · intro h
      obtain ⟨s, hs, rfl⟩ := List.mem_map.1 h
      obtain ⟨e, he, rfl⟩ := List.mem_map.1 ((hmem s).2 hs)
      exact List.mem_map.2 ⟨e, he, rfl⟩)
  have HB1 := Lib.hid hb1
  have hel1 := hel
  clear hset hmem hb1 hel
  go_wp2
  go_loopw [7, 14] (fun v i wr => ∃ (k : Nat) (es : List Met) (sv : Value) (bs : List Bool) (A : Option Addr) (c : Nat), k ≤ m ∧ i = .int .i64 k ∧ v = .slice A k c ∧ SetAt wr w.heap.size sb mb sv es ∧ (∀ x, x ∈ es.map (·.name.data.toList) ↔ x ∈ N ∧ x ∉ D.take k) ∧ es.length ≤ 20 ∧
    Truths N D k bs ∧ wr.ownsRow w.heap.size 4 1 (.slice A k c) k (bs.map .bool) ∧ Below w.heap.size w wr) (fun _ i _ => m - (intOf i).toNat)
  case atStart => exact ⟨0, es1, sv1, [], none, 0, Nat.zero_le _, rfl, rfl, HSET.out, fun x => by rw [HMEM.out]; simp, hel1, rfl, World.ownsRow_nil _ _ _ _, HB1.out⟩
  case round =>
    obtain ⟨k, es, sv, bs, A, c, hk, rfl, rfl, hset, hmem, hel, htr, hown, hbel⟩ := hrel
    have HS1 := Lib.hid hset
    have HM := Lib.hid hmem
    have HT := Lib.hid htr
    have HO := Lib.hid hown
    have HB := Lib.hid hbel
    clear hset hmem htr hown hbel HSET HS
    by_cases hlt : k < m
    · have hk1 : k < drops.length := by rw [H2.out]; exact hlt
      obtain ⟨s, hs⟩ : ∃ s, s = drops[k] := ⟨_, rfl⟩
      obtain ⟨b2, off2, ha2, hb2, hc2⟩ := HL2.out.2 (by omega)
      subst ha2
      have d1 : wr.cell? ⟨b2, off2 + k, none⟩ = some (.string s) := by
        rw [HB.out.cell (p := ⟨b2, off2 + k, none⟩) (by simpa using hb2)]
        exact hc2 k _ (by rw [List.getElem?_map, List.getElem?_eq_getElem hk1, hs]; rfl)
      have hgs := (HG2.out s (by rw [hs]; exact List.getElem_mem _)).1
      have hDk : D.getD k [] = s.data.toList := by
        rw [HDD.out, List.getD_eq_getElem?_getD, List.getElem?_map, List.getElem?_eq_getElem hk1, hs]
        rfl
      have hDt : D.take (k + 1) = D.take k ++ [s.data.toList] := by
        have hkD : k < D.length := by rw [HDD.out, List.length_map]; exact hk1
        rw [List.take_succ_eq_append_getElem hkD]
        have : D[k] = s.data.toList := by
          rw [← hDk, List.getD_eq_getElem?_getD, List.getElem?_eq_getElem hkD]
          rfl
        rw [this]
      have htruth : truth N D k = decide (s.data.toList ∈ es.map (·.name.data.toList)) := by
        unfold truth
        rw [hDk]
        exact decide_eq_decide.2 (HM.out _).symm
      have HDT := Lib.hid hDt
      have HTR := Lib.hid htruth
      have HC2 := Lib.hid hc2
      clear hs hDk hDt htruth hc2
      by_cases hin : s ∈ es.map (·.name)
      · obtain ⟨e0, he0, hn0⟩ := List.mem_map.1 hin
        obtain ⟨pre, post, hes⟩ := List.append_of_mem he0
        subst hn0
        subst hes
        clear hin he0
        go_wp2_with (first
          | (go_at_call 36; refine (unregHit w.heap.size sb mb sv pre post e0 wr HS1.out hgs HB.out.size hel).mono ?_; rintro e w3 ⟨sv3, rfl, hs3, hb3, hkeep⟩; have hbs3 : w.heap.size ≤ (w3.alloc (.cells #[.bool true] 4)).heap.size := by { have := (HB.out.trans hb3).size; simp; omega }; have HO3 := Lib.hid ((own_keep HO.out hkeep).alloc (.cells #[.bool true] 4)); have HS3 := Lib.hid hs3; have HB3 := Lib.hid (HB.out.trans hb3); clear hs3 hb3 hkeep)
          | (at_builtin; refine wpList_append_own _ rfl _ _ 37 rfl w.heap.size 4 i0 (.bool false) 1 1 Tryd.underlying37 hi hz0 hz1 hz2 rfl (by decide) (.slice A k c) k (bs.map .bool) rfl HO3.out ⟨w3.heap.size, 0, none⟩ 1 1 [.bool true] rfl rfl (cell_one_new _ _ _) (by simp [Value.oneCell']) (by unfold maxLen; omega) (by omega) hbs3 ?_; intro v' w4 hown4 hgrow4 _; obtain ⟨A', c', hv'⟩ := own_form hown4; rw [hv'] at hown4 ⊢; clear hv'; have HG4 := Lib.hid hgrow4; have HO4 := Lib.hid hown4; clear hgrow4 hown4))
        go_roundw
        case rel =>
          have hnd := HS1.out.names
          refine ⟨k + 1, pre ++ post, sv3, bs ++ [true], A', c', by omega, by go_num, rfl, (HS3.out.alloc (.cells #[.bool true] 4)).beside HO3.out HG4.out (by decide) (by decide) (by decide) (by decide), fun x => ?_, by simp at hel ⊢; omega, ?_, ?_, ?_⟩
          · rw [HDT.out, List.mem_append, List.mem_singleton]
            have h0 := HM.out x
            rw [mem_without hnd x, h0]
            constructor
            · rintro ⟨⟨h1, h2⟩, h3⟩
              exact ⟨h1, fun h => h.elim h2 h3⟩
            · rintro ⟨h1, h2⟩
              exact ⟨⟨h1, fun h => h2 (.inl h)⟩, fun h => h2 (.inr h)⟩
          · have h := HT.out.snoc
            rw [HTR.out] at h
            have : decide (e0.name.data.toList ∈ (pre ++ e0 :: post).map (·.name.data.toList)) = true := decide_eq_true (by simp)
            rw [this] at h
            exact h
          · rw [List.map_append]; exact HO4.out
          · exact (HB3.out.alloc HB3.out.size _).grown HG4.out hbs3 (fun g hg => (HO3.out.lt g hg).1)
        case measure => simp [intOf]; omega
      · have hbs3 : w.heap.size ≤ (wr.alloc (.cells #[.bool false] 4)).heap.size := by have := HB.out.size; simp; omega
        have HO3 := Lib.hid (HO.out.alloc (.cells #[.bool false] 4))
        have HNO := Lib.hid hin
        clear hin
        go_wp2_with (first
          | (go_at_call 36; refine (unregMiss w.heap.size sb mb sv es s wr HS1.out HNO.out hgs).mono ?_; rintro e w3 ⟨rfl, rfl⟩)
          | (at_builtin; refine wpList_append_own _ rfl _ _ 37 rfl w.heap.size 4 i0 (.bool false) 1 1 Tryd.underlying37 hi hz0 hz1 hz2 rfl (by decide) (.slice A k c) k (bs.map .bool) rfl HO3.out ⟨wr.heap.size, 0, none⟩ 1 1 [.bool false] rfl rfl (cell_one_new _ _ _) (by simp [Value.oneCell']) (by unfold maxLen; omega) (by omega) hbs3 ?_; intro v' w4 hown4 hgrow4 _; obtain ⟨A', c', hv'⟩ := own_form hown4; rw [hv'] at hown4 ⊢; clear hv'; have HG4 := Lib.hid hgrow4; have HO4 := Lib.hid hown4; clear hgrow4 hown4))
        go_roundw
        case rel =>
          have hno : s.data.toList ∉ es.map (·.name.data.toList) := fun h => by
            obtain ⟨e, he, hee⟩ := List.mem_map.1 h
            exact HNO.out (List.mem_map.2 ⟨e, he, ba_ext hee⟩)
          refine ⟨k + 1, es, sv, bs ++ [false], A', c', by omega, by go_num, rfl, (HS1.out.alloc (.cells #[.bool false] 4)).beside HO3.out HG4.out (by decide) (by decide) (by decide) (by decide), fun x => ?_, hel, ?_, ?_, ?_⟩
          · rw [HDT.out, List.mem_append, List.mem_singleton, HM.out x]
            constructor
            · rintro ⟨h1, h2⟩
              refine ⟨h1, fun h => h.elim h2 (fun hx => hno ?_)⟩
              rw [← hx]
              exact (HM.out x).2 ⟨h1, h2⟩
            · rintro ⟨h1, h2⟩
              exact ⟨h1, fun h => h2 (.inl h)⟩
          · have h := HT.out.snoc
            rw [HTR.out, decide_eq_false hno] at h
            exact h
          · rw [List.map_append]; exact HO4.out
          · exact (HB.out.alloc HB.out.size _).grown HG4.out hbs3 (fun g hg => (HO3.out.lt g hg).1)
        case measure => simp [intOf]; omega
    · have hks : k = m := by omega
      subst hks
      have htk : D.take k = D := List.take_of_length_le (by rw [HDD.out, List.length_map, H2.out]; omega)
      have HTK := Lib.hid htk
      have HLN := Lib.hid (listNamesAt w.heap.size sb mb sv es wr HS1.out hel)
      clear htk
      go_wp2_with fail
      refine HLN.out.mono ?_
      rintro e w5 ⟨A3, k3, c3, l, rfl, hl, hk3, hrise, hml, hown5, hb5⟩
      have HR := Lib.hid (And.intro hrise hml)
      have HL5 := Lib.hid (Lies.of_own hown5)
      have HB5 := Lib.hid hb5
      clear hrise hml hown5 hb5
      go_wp2
      go_ret2
      refine ⟨A3, A, k3, c3, c, l, bs, rfl, hl, hk3, HR.out.1, fun x => ?_, HL5.out, HT.out, ?_, HB.out.trans (HB5.out.mono HB.out.size)⟩
      · rw [HR.out.2, HM.out, HTK.out]
      · exact ((Lies.of_own HO.out).below HB5.out (Nat.le_refl _)).more HB5.out.size
end Go.Proofs.YtlimibjmccbdlaaDoor
