/-
  impl.Page: the counters of the names, each with all that was added to it, written in order of names.
-/
import Derived.Test.YtlimibjmccbdlaaGreatDoorText
import Derived.Deep.RegionWith
namespace Go.Proofs.YtlimibjmccbdlaaGreatDoor
open Go.RowKit Go.Sort

/-- A slice (address A, n elements) whose cells are xs, below block B. -/
def Lies (w : World) (B : Nat) (A : Option Addr) (n : Nat) (xs : List Value) : Prop :=
  xs.length = n ∧ (0 < n → ∃ b off, A = some ⟨b, off, none⟩ ∧ b < B ∧ ∀ j u, xs[j]? = some u → w.cell? ⟨b, off + j, none⟩ = some u)
theorem Lies.below {w w' : World} {B B' : Nat} {A : Option Addr} {n : Nat} {xs : List Value} (h : Lies w B A n xs) (hb : Below B' w w') (hB : B ≤ B') : Lies w' B A n xs := by
  refine ⟨h.1, fun hn => ?_⟩
  obtain ⟨b, off, e, hlt, hc⟩ := h.2 hn
  exact ⟨b, off, e, hlt, fun j u hu => (hb.cell (p := ⟨b, off + j, none⟩) (by simp; omega)).trans (hc j u hu)⟩
theorem Lies.more {w : World} {B B' : Nat} {A : Option Addr} {n : Nat} {xs : List Value} (h : Lies w B A n xs) (hB : B ≤ B') : Lies w B' A n xs := by
  refine ⟨h.1, fun hn => ?_⟩
  obtain ⟨b, off, e, hlt, hc⟩ := h.2 hn
  exact ⟨b, off, e, by omega, hc⟩
theorem Lies.of_own {w : World} {base : Nat} {e : TypeId} {A : Option Addr} {n c : Nat} {xs : List Value} (h : w.ownsRow base e 1 (.slice A n c) n xs) : Lies w w.heap.size A n xs := by
  refine ⟨by simpa using h.1, fun hn => ?_⟩
  obtain ⟨g, c', hv⟩ := own_at h hn
  have hA : A = some ⟨g, 0, none⟩ := by injection hv
  subst hA
  refine ⟨g, 0, rfl, (h.lt g rfl).2, fun j u hu => ?_⟩
  have := h.cells (g := g) rfl j u hu
  rwa [Lib.add_plain] at this

theorem SetIs.drew {w : World} {B sb mb : Nat} {sv : Value} {es : List Met} (h : SetIs w B sb mb sv es) : SetIs w.drew B sb mb sv es :=
  ⟨h.box, h.own, h.map, fun e he => ⟨(h.met e he).named, (h.met e he).held, (h.met e he).nlo, (h.met e he).clo⟩, h.slo, h.mlo, h.cells, h.names, h.nil⟩

/-- What a set holds, by names. -/
abbrev Tally := List (ByteArray × Int)
def tallyOf (es : List Met) : Tally := es.map fun e => (e.name, e.v)
open Classical in
/-- One number more. -/
noncomputable def putT (t : Tally) (s : ByteArray) (n : Int) : Tally :=
  if s ∈ t.map (·.1) then t.map (fun p => if p.1 = s then (p.1, addU p.2 n) else p) else t ++ [(s, addU 0 n)]
/-- All numbers, from the left. -/
noncomputable def tally : List ByteArray → List Int → Tally → Tally
  | s :: ss, n :: ns, t => tally ss ns (putT t s n)
  | _, _, t => t
theorem tally_snoc : ∀ (ss : List ByteArray) (ns : List Int) (s : ByteArray) (n : Int) (t : Tally), ss.length = ns.length → tally (ss ++ [s]) (ns ++ [n]) t = putT (tally ss ns t) s n
  | [], [], _, _, _, _ => rfl
  | _ :: ss, _ :: ns, s, n, t, h => tally_snoc ss ns s n _ (by simpa using h)
theorem putT_mem (t : Tally) (s : ByteArray) (n : Int) (p : ByteArray × Int) (h : p ∈ putT t s n) : p.1 ∈ t.map (·.1) ∨ p.1 = s := by
  unfold putT at h
  split at h
  · obtain ⟨q, hq, rfl⟩ := List.mem_map.1 h
    refine .inl (List.mem_map.2 ⟨q, hq, ?_⟩)
    split <;> rfl
  · rcases List.mem_append.1 h with h | h
    · exact .inl (List.mem_map.2 ⟨p, h, rfl⟩)
    · obtain rfl := List.mem_singleton.1 h
      exact .inr rfl
theorem tally_mem : ∀ (ss : List ByteArray) (ns : List Int) (t : Tally) (p : ByteArray × Int), p ∈ tally ss ns t → p.1 ∈ t.map (·.1) ∨ p.1 ∈ ss
  | [], ns, t, p, h => .inl (List.mem_map.2 ⟨p, by cases ns <;> exact h, rfl⟩)
  | s :: ss, [], t, p, h => .inl (List.mem_map.2 ⟨p, h, rfl⟩)
  | s :: ss, n :: ns, t, p, h => by
    rcases tally_mem ss ns _ p h with h | h
    · obtain ⟨q, hq, he⟩ := List.mem_map.1 h
      rcases putT_mem t s n q hq with h1 | h1
      · exact .inl (by rw [← he]; exact h1)
      · exact .inr (by rw [← he, h1]; simp)
    · exact .inr (by simp [h])
theorem tallyOf_names (es : List Met) : (tallyOf es).map (·.1) = es.map (·.name) := by simp [tallyOf]
theorem tally_put_hit (pre post : List Met) (e0 : Met) (n : Int) (hn : ((pre ++ e0 :: post).map (·.name)).Nodup) :
    tallyOf (pre ++ { e0 with v := addU e0.v n } :: post) = putT (tallyOf (pre ++ e0 :: post)) e0.name n := by
  unfold putT
  rw [if_pos (by rw [tallyOf_names]; simp)]
  rw [List.map_append, List.map_cons, List.nodup_append, List.nodup_cons] at hn
  obtain ⟨_, ⟨hn1, _⟩, hn2⟩ := hn
  simp only [tallyOf, List.map_append, List.map_cons, List.map_map]
  have k1 : ∀ e ∈ pre, (e.name, e.v) = ((fun p : ByteArray × Int => if p.1 = e0.name then (p.1, addU p.2 n) else p) ∘ fun e => (e.name, e.v)) e := fun e he => by
    have hne : e.name ≠ e0.name := hn2 _ (List.mem_map.2 ⟨e, he, rfl⟩) _ (by simp)
    simp [hne]
  have k2 : ∀ e ∈ post, (e.name, e.v) = ((fun p : ByteArray × Int => if p.1 = e0.name then (p.1, addU p.2 n) else p) ∘ fun e => (e.name, e.v)) e := fun e he => by
    have hne : e.name ≠ e0.name := fun h => hn1 (List.mem_map.2 ⟨e, he, h⟩)
    simp [hne]
  rw [List.map_congr_left k1, List.map_congr_left k2]
  simp
theorem tally_put_miss (es : List Met) (s : ByteArray) (nb cb : Nat) (n : Int) (hno : s ∉ es.map (·.name)) :
    tallyOf (es ++ [⟨nb, cb, s, addU 0 n⟩]) = putT (tallyOf es) s n := by
  unfold putT
  rw [if_neg (by rw [tallyOf_names]; exact hno)]
  simp [tallyOf]

def lineT (p : ByteArray × Int) : List UInt8 := lineOf p.1 (Lib.decDigits p.2.toNat)
/-- What Page comes to: the lines of some order of the tally by names. -/
def PageIs (t : Tally) (l : List UInt8) : Prop := ∃ st : Tally, st.Perm t ∧ st.Pairwise (fun a b => ¬ Lib.compareBytes b.1.data.toList a.1.data.toList < 0) ∧ l = st.flatMap lineT

set_option maxRecDepth 100000 in
set_option maxHeartbeats 2000000 in
theorem page_any (names : List ByteArray) (adds : List Int) (A1 A2 : Option Addr) (c1 c2 n : Nat) (w : World) (h1 : names.length = n) (h2 : adds.length = n) (h20 : n ≤ 20) (good : ∀ s ∈ names, GoodName s)
    (L1 : Lies w w.heap.size A1 n (names.map .string)) (L2 : Lies w w.heap.size A2 n (adds.map (.int .i64))) (hB : 4 ≤ w.heap.size)
    (hsp : ∀ p ∈ tally names adds [], 0 ≤ p.2 ∧ Spells w p.2.toNat) :
    Calls Tryz.prog 17 #[.slice A1 n c1, .slice A2 n c2] w fun e w' => ∃ l, e = .returned (.string ⟨l.toArray⟩) ∧ PageIs (tally names adds []) l ∧ Below w.heap.size w w' := by
  have HL1 := Lib.hid L1
  have HL2 := Lib.hid L2
  have HGOOD := Lib.hid good
  have HSP := Lib.hid hsp
  have H1 := Lib.hid h1
  have H2 := Lib.hid h2
  clear L1 L2 good hsp h1 h2
  go_enter Tryz.func17, Tryz.ntmps17
  go_wp2_with fail
  refine (newSet w).mono ?_
  rintro e w1 ⟨sb, mb, rfl, hset, hbel⟩
  have HSET := Lib.hid hset
  have HBEL := Lib.hid hbel
  clear hset hbel
  go_wp2_with fail
  go_loopw [11] (fun i wr => ∃ (k : Nat) (es : List Met) (sv : Value), k ≤ n ∧ i = .int .i64 k ∧ SetIs wr w.heap.size sb mb sv es ∧ tallyOf es = tally (names.take k) (adds.take k) [] ∧ es.length ≤ k ∧ Below w.heap.size w wr) (fun i _ => n - (intOf i).toNat)
  case atStart => exact ⟨0, [], .slice none 0 0, Nat.zero_le _, rfl, HSET.out, rfl, Nat.le_refl _, HBEL.out⟩
  case round =>
    obtain ⟨k, es, sv, hk, rfl, hset, htal, hel, hbel⟩ := hrel
    have HS := Lib.hid hset
    have HT := Lib.hid htal
    have HB := Lib.hid hbel
    clear hset htal hbel
    by_cases hlt : k < n
    · have hk1 : k < names.length := by rw [H1.out]; exact hlt
      have hk2 : k < adds.length := by rw [H2.out]; exact hlt
      obtain ⟨s, hs⟩ : ∃ s, s = names[k] := ⟨_, rfl⟩
      obtain ⟨m, hm⟩ : ∃ m, m = adds[k] := ⟨_, rfl⟩
      obtain ⟨b1, off1, ha1, hb1, hc1⟩ := HL1.out.2 (by omega)
      obtain ⟨b2, off2, ha2, hb2, hc2⟩ := HL2.out.2 (by omega)
      subst ha1 ha2
      have d1 : wr.cell? ⟨b1, off1 + k, none⟩ = some (.string s) := by
        rw [HB.out.cell (p := ⟨b1, off1 + k, none⟩) (by simpa using hb1)]
        exact hc1 k _ (by rw [List.getElem?_map, List.getElem?_eq_getElem hk1, hs]; rfl)
      have d2 : wr.cell? ⟨b2, off2 + k, none⟩ = some (.int .i64 m) := by
        rw [HB.out.cell (p := ⟨b2, off2 + k, none⟩) (by simpa using hb2)]
        exact hc2 k _ (by rw [List.getElem?_map, List.getElem?_eq_getElem hk2, hm]; rfl)
      have hgs : GoodName s := HGOOD.out s (by rw [hs]; exact List.getElem_mem _)
      have hsn : tally (names.take (k + 1)) (adds.take (k + 1)) [] = putT (tallyOf es) s m := by
        rw [List.take_succ_eq_append_getElem hk1, List.take_succ_eq_append_getElem hk2, tally_snoc _ _ _ _ _ (by simp [H1.out, H2.out]), HT.out, hs, hm]
      have HSN := Lib.hid hsn
      have HGS := Lib.hid hgs
      have HC1 := Lib.hid hc1
      have HC2 := Lib.hid hc2
      clear hs hm hsn hgs hc1 hc2
      by_cases hin : s ∈ es.map (·.name)
      · obtain ⟨e0, he0, hn0⟩ := List.mem_map.1 hin
        obtain ⟨pre, post, hes⟩ := List.append_of_mem he0
        subst hn0
        subst hes
        have HIN := Lib.hid he0
        clear hin he0
        go_wp2_with fail
        go_region_with (first | (go_at_call 24; refine (getHit w.heap.size sb mb sv (pre ++ e0 :: post) e0 _ HS.out.drew HIN.out HGS.out.1).mono ?_; rintro e w3 ⟨rfl, rfl⟩) | (go_at_call 25; refine (counter_set w.heap.size sb mb sv pre post e0 m _ HS.out.drew).mono ?_; rintro e w4 ⟨rfl, hset4, hbel4⟩; have HS4 := Lib.hid hset4; have HB4 := Lib.hid hbel4; clear hset4 hbel4))
        all_goals
          go_wp2
          go_roundw
          case rel =>
            refine ⟨k + 1, pre ++ { e0 with v := addU e0.v m } :: post, sv, by omega, by go_num, HS4.out, ?_, by simp at hel ⊢; omega, HB.out.drew.trans HB4.out⟩
            rw [HSN.out]
            exact tally_put_hit pre post e0 m HS.out.names
          case measure => simp [intOf]; omega
      · have HNO := Lib.hid hin
        clear hin
        go_wp2_with fail
        go_region_with (first | (go_at_call 24; refine (getMiss w.heap.size sb mb sv es s _ HS.out.drew HNO.out HGS.out HB.out.size (by omega)).mono ?_; rintro e w3 ⟨nb, cb, sv3, rfl, hset3, hbel3⟩; have d3 := (hbel3.cell (p := Addr.mk b2 (off2 + k) none) hb2).trans d2; have HS3 := Lib.hid hset3; have HB3 := Lib.hid hbel3; clear hset3 hbel3) | (go_at_call 25; refine (counter_set w.heap.size sb mb sv3 es [] ⟨nb, cb, s, 0⟩ m _ HS3.out).mono ?_; rintro e w4 ⟨rfl, hset4, hbel4⟩; have HS4 := Lib.hid hset4; have HB4 := Lib.hid hbel4; clear hset4 hbel4))
        all_goals
          go_wp2
          go_roundw
          case rel =>
            refine ⟨k + 1, es ++ [⟨nb, cb, s, addU 0 m⟩], sv3, by omega, by go_num, HS4.out, ?_, by simp; omega, (HB.out.drew.trans HB3.out).trans HB4.out⟩
            rw [HSN.out]
            exact tally_put_miss es s nb cb m HNO.out
          case measure => simp [intOf]; omega
    · have hks : k = n := by omega
      subst hks
      have hes : tallyOf es = tally names adds [] := by
        have h := HT.out
        rw [List.take_of_length_le (by rw [H1.out]; exact Nat.le_refl _), List.take_of_length_le (by rw [H2.out]; exact Nat.le_refl _)] at h
        exact h
      have hmet : ∀ e ∈ es, e.name.size ≤ 1000 ∧ 0 ≤ e.v ∧ Spells wr e.v.toNat := fun e he => by
        have hin : (e.name, e.v) ∈ tally names adds [] := by
          rw [← hes]
          exact List.mem_map.2 ⟨e, he, rfl⟩
        have h1 := HSP.out _ hin
        have h2 : e.name ∈ names := tally_mem names adds [] (e.name, e.v) hin |>.resolve_left (by simp)
        exact ⟨(HGOOD.out _ h2).1, h1.1, h1.2.below HB.out hB⟩
      have HZ := Lib.hid (zzText w.heap.size sb mb sv es wr HS.out (by omega) hB HB.out.size hmet)
      have HES := Lib.hid hes
      clear hes hmet
      go_wp2_with fail
      refine HZ.out.mono ?_
      rintro e w5 ⟨es', rfl, hord, hbel⟩
      have HO := Lib.hid hord
      have H5 := Lib.hid hbel
      clear hord hbel
      go_wp2
      go_ret
      refine ⟨_, rfl, ⟨tallyOf es', ?_, ?_, ?_⟩, HB.out.trans H5.out⟩
      · rw [← HES.out]
        exact HO.out.1.map _
      · unfold tallyOf
        rw [List.pairwise_map]
        exact HO.out.2
      · unfold text tallyOf
        rw [List.flatMap_map]
        rfl

/-- Page at one name and one number: what a statement asks to know that the code is sane. -/
theorem page_one (A1 A2 : Option Addr) (w : World) (c1 c2 : Nat) (L1 : Lies w w.heap.size A1 1 [.string ⟨#[97]⟩]) (L2 : Lies w w.heap.size A2 1 [.int .i64 3]) (hB : 4 ≤ w.heap.size) :
    Calls Tryz.prog 17 #[.slice A1 1 c1, .slice A2 1 c2] w fun e w' => e = .returned (.string ⟨#[97, 32, 51, 10]⟩) ∧ Below w.heap.size w w' := by
  have ht : tally [⟨#[97]⟩] [3] [] = [(⟨#[97]⟩, 3)] := by
    simp only [tally, putT, List.map_nil, List.not_mem_nil, if_false, List.nil_append]
    rfl
  have hg : GoodName ⟨#[97]⟩ := ⟨by decide, ⟨#[97]⟩, by decide, by decide, .inl rfl⟩
  refine (page_any [⟨#[97]⟩] [3] A1 A2 c1 c2 1 w rfl rfl (by decide) (by simpa using hg) L1 L2 hB (by rw [ht]; intro p hp; obtain rfl := List.mem_singleton.1 hp; exact ⟨by decide, .inl (by decide)⟩)).mono ?_
  rintro e w' ⟨l, rfl, ⟨st, hp, _, rfl⟩, hb⟩
  rw [ht] at hp
  rw [List.perm_singleton.1 hp]
  refine ⟨?_, hb⟩
  have : (List.flatMap lineT [((⟨#[97]⟩ : ByteArray), (3 : Int))]) = [97, 32, 51, 10] := by
    simp only [List.flatMap_cons, List.flatMap_nil, List.append_nil, lineT, lineOf]
    rw [Lib.decDigits_one (by decide)]
    rfl
  rw [this]

theorem sane_any (w : World) (hB : 4 ≤ w.heap.size) :
    Calls Tryz.prog 8 #[] w fun e w' => e = .returned (.bool true) ∧ Below w.heap.size w w' := by
  have L1 : Lies ((w.alloc (.cells #[.string ⟨#[97]⟩] 9)).alloc (.cells #[.int .i64 3] 3)) ((w.alloc (.cells #[.string ⟨#[97]⟩] 9)).alloc (.cells #[.int .i64 3] 3)).heap.size (some ⟨w.heap.size, 0, none⟩) 1 [.string ⟨#[97]⟩] :=
    ⟨rfl, fun _ => ⟨w.heap.size, 0, rfl, by simp; omega, fun j u hu => by
      rw [((Box.made w 9 #[.string ⟨#[97]⟩]).alloc _).cell]
      simpa using hu⟩⟩
  have L2 : Lies ((w.alloc (.cells #[.string ⟨#[97]⟩] 9)).alloc (.cells #[.int .i64 3] 3)) ((w.alloc (.cells #[.string ⟨#[97]⟩] 9)).alloc (.cells #[.int .i64 3] 3)).heap.size (some ⟨w.heap.size + 1, 0, none⟩) 1 [.int .i64 3] :=
    ⟨rfl, fun _ => ⟨w.heap.size + 1, 0, rfl, by simp, fun j u hu => by
      have h := Box.made (w.alloc (.cells #[.string ⟨#[97]⟩] 9)) 3 #[.int .i64 3]
      rw [show (w.alloc (.cells #[.string ⟨#[97]⟩] 9)).heap.size = w.heap.size + 1 by simp] at h
      rw [h.cell]
      simpa using hu⟩⟩
  have HP := Lib.hid (page_one _ _ _ 1 1 L1 L2 (by simp; omega))
  clear L1 L2
  go_enter Tryz.func8, Tryz.ntmps8
  go_wp2_with fail
  refine HP.out.mono ?_
  rintro e w' ⟨rfl, hb⟩
  have HB := Lib.hid hb
  clear hb
  go_wp2
  go_ret
  exact ⟨rfl, ((Below.refl _ w).alloc (Nat.le_refl _) _).alloc (by simp) _ |>.trans (HB.out.mono (by simp; omega))⟩
end Go.Proofs.YtlimibjmccbdlaaGreatDoor
