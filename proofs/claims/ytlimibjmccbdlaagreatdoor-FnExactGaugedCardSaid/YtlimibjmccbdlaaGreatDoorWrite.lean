/-
  WritePrometheus: a set of at most twenty metrics of one kind writes a line for each, in order of names.
-/
import Derived.Test.YtlimibjmccbdlaaGreatDoorSort
import Derived.StillTailTactics
import Derived.Deep.RegionWith
import Derived.Deep.DeepFit
import Derived.WalkSpells
namespace Go.Proofs.YtlimibjmccbdlaaGreatDoor
open Go.RowKit Go.Sort

/-- What a kind of metrics (its pointers' type T) does: its two methods are functions fT and fM; fM writes the metric's line. -/
structure Kind (T fT fM : Nat) : Prop where
  tMethod : ∀ (n : Nat) (a : Addr) (w : World), (method (n + 1) T (.pointer (some a)) "loop.example/pub-metricpages/pub/vmmetrics.metricType").run Tryz.prog w = .ok (fT, .pointer (some a)) w
  mMethod : ∀ (n : Nat) (a : Addr) (w : World), (method (n + 1) T (.pointer (some a)) "loop.example/pub-metricpages/pub/vmmetrics.marshalTo").run Tryz.prog w = .ok (fM, .pointer (some a)) w
  tEnter : ∀ (args : Array Value) (w : World), (callFunc fT args).run Tryz.prog w = .ok (.enter fT args) w
  mEnter : ∀ (args : Array Value) (w : World), (callFunc fM args).run Tryz.prog w = .ok (.enter fM args) w
  type : ∀ (b : Nat) (w : World), Calls Tryz.prog fT #[.pointer (some ⟨b, 0, none⟩)] w fun e w' => (∃ s, e = .returned (.string s)) ∧ w = w'

/-- The lines of metrics. -/
def text (line : Met → List UInt8) (es : List Met) : List UInt8 := es.flatMap line

theorem text_snoc (line : Met → List UInt8) (es : List Met) (k : Nat) (h : k < es.length) : text line (es.take (k + 1)) = text line (es.take k) ++ line es[k] := by
  unfold text
  rw [List.take_succ_eq_append_getElem h, List.flatMap_append]
  simp
theorem text_le (line : Met → List UInt8) (es : List Met) (h : ∀ e ∈ es, (line e).length ≤ 2000) : (text line es).length ≤ es.length * 2000 := by
  unfold text
  induction es with
  | nil => simp
  | cons e es ih =>
    have h1 := h e (by simp)
    have h2 := ih (fun x hx => h x (by simp [hx]))
    simp only [List.flatMap_cons, List.length_append, List.length_cons]
    omega
theorem text_pos (line : Met → List UInt8) (es : List Met) (h0 : es ≠ []) (h : ∀ e ∈ es, 1 ≤ (line e).length) : 1 ≤ (text line es).length := by
  unfold text
  cases es with
  | nil => exact absurd rfl h0
  | cons e es =>
    have h1 := h e (by simp)
    simp only [List.flatMap_cons, List.length_append]
    omega

theorem own_at {w : World} {base : Nat} {e : TypeId} {size n : Nat} {v : Value} {xs : List Value} (h : w.ownsRow base e size v n xs) (hn : 0 < n) : ∃ g c, v = .slice (some ⟨g, 0, none⟩) n c := by
  rcases h.2 with ⟨_, hz⟩ | ⟨g, cap, cur, hv, _⟩
  · omega
  · exact ⟨g, cap, hv⟩

/-- What is asked of the metrics of a set that is written in world w. -/
structure Fit (w : World) (B T fM : Nat) (line : Met → List UInt8) (e : Met) : Prop where
  named : Box w e.nb 82 #[.string e.name, .iface T (.pointer (some ⟨e.cb, 0, none⟩)), .bool false]
  held : ∃ t cs, Box w e.cb t cs ∧ t ≠ 79 ∧ t ≠ 58
  len : 1 ≤ (line e).length ∧ (line e).length ≤ 2000
  writes : ∀ (W : World) (Bx bb : Nat) (l : List UInt8), W.heap[e.cb]? = w.heap[e.cb]? → Below B w W → Bx ≤ W.heap.size → BufIs W Bx bb l → l.length + (line e).length ≤ 1000000 →
    Calls Tryz.prog fM #[.pointer (some ⟨e.cb, 0, none⟩), .string e.name, .iface 62 (.pointer (some ⟨bb, 0, none⟩))] W fun r w' => r = .returned (.tuple #[]) ∧ BufIs w' Bx bb (l ++ line e) ∧ But Bx bb W w'

theorem infoPtr : (Tryz.prog.info? 79).map (fun i => (i.zero, i.size, i.bytes)) = some (some (.pointer none), 1, 8) := by kernel_rfl
theorem enc_oneCell (es : List Met) : ∀ u ∈ es.map encM, u.oneCell' = true := by
  intro u hu
  obtain ⟨b, _, rfl⟩ := List.mem_map.1 hu
  rfl

set_option maxRecDepth 100000 in
set_option maxHeartbeats 2000000 in
theorem write_some (T fT fM : Nat) (K : Kind T fT fM) (line : Met → List UInt8) (B sb ob : Nat) (es : List Met) (A : Option Addr) (cap : Nat) (mv : Value) (w : World) (h0 : es ≠ []) (h20 : es.length ≤ 20)
    (hset : Box w sb 47 #[.slice A es.length cap, mv, .bool false, .slice none 0 0])
    (hown : w.ownsRow B 79 1 (.slice A es.length cap) es.length (es.map encM))
    (hmet : ∀ e ∈ es, Fit w B T fM line e)
    (hbuf : Box w ob 58 #[.slice none 0 0]) (hob : B ≤ ob) :
    Calls Tryz.prog 23 #[.pointer (some ⟨sb, 0, none⟩), .iface 62 (.pointer (some ⟨ob, 0, none⟩))] w
      fun e w' => e = .returned (.tuple #[]) ∧ ∃ es', Ordered es es' ∧ BufIs w' ob ob (text line es') ∧ Below B w w' := by
  obtain ⟨g, cap', hv⟩ : ∃ g cap', Value.slice A es.length cap = .slice (some ⟨g, 0, none⟩) es.length cap' := by
    rcases hown.2 with ⟨_, hz⟩ | ⟨g, cap', cur, hv, _⟩
    · have := List.length_pos_iff.2 h0
      omega
    · exact ⟨g, cap', hv⟩
  obtain ⟨rfl⟩ : A = some ⟨g, 0, none⟩ := by injection hv
  clear hv
  have hc0 := hset.cell 0
  simp at hc0
  have hlt := hset.lt
  have hol := hbuf.lt
  have hBg : B ≤ g := (hown.lt g rfl).1
  -- behind the new buffer's box
  obtain ⟨w0, hw0⟩ : ∃ w0, w0 = w.alloc (.cells #[Value.slice none 0 0] 58) := ⟨_, rfl⟩
  have hset0 : Box w0 sb 47 #[.slice (some ⟨g, 0, none⟩) es.length cap, mv, .bool false, .slice none 0 0] := by rw [hw0]; exact hset.alloc _
  have hown0 : w0.ownsRow B 79 1 (.slice (some ⟨g, 0, none⟩) es.length cap) es.length (es.map encM) := by rw [hw0]; exact hown.alloc _
  have hbb0 : Box w0 w.heap.size 58 #[.slice none 0 0] := by rw [hw0]; exact Box.made _ _ _
  have hob0 : Box w0 ob 58 #[.slice none 0 0] := by rw [hw0]; exact hbuf.alloc _
  have hbel0 : Below B w w0 := by rw [hw0]; exact (Below.refl _ _).alloc (by omega) _
  have hold0 : ∀ k, k < w.heap.size → w0.heap[k]? = w.heap[k]? := fun k hk => by rw [hw0]; exact Below.heap_alloc _ _ _ hk
  have hsz0 : w0.heap.size = w.heap.size + 1 := by rw [hw0]; simp
  have HSORT := Lib.hid (sortStable_any B es (some ⟨g, 0, none⟩) cap w0 h20 hown0 (fun e he => ⟨_, _, (hold0 _ (hmet e he).named.lt).trans (hmet e he).named⟩))
  have HSET := Lib.hid hset0
  have HOWN := Lib.hid hown0
  have HBB := Lib.hid hbb0
  have HOB := Lib.hid hob0
  have HM := Lib.hid hmet
  have HOLD := Lib.hid hold0
  have HBEL := Lib.hid hbel0
  have HSZ := Lib.hid hsz0
  have HW := Lib.hid hw0
  clear hset hown hmet hbuf hset0 hown0 hbb0 hob0 hbel0 hold0 hsz0 hw0
  obtain ⟨i0, hi, hz0, hz1, hz2⟩ := info_parts infoPtr
  go_enter Tryz.func23, Tryz.ntmps23
  go_wp2_with fail
  rw [← HW.out]
  refine HSORT.out.mono ?_
  rintro e w1 ⟨rfl, es', hord, hown1, hg1⟩
  have hlen : es'.length = es.length := hord.1.length_eq
  have hset1 := HSET.out.grown hg1 (own_apart' HOWN.out HSET.out (by decide))
  have hbb1 := HBB.out.grown hg1 (own_apart' HOWN.out HBB.out (by decide))
  have hob1 := HOB.out.grown hg1 (own_apart' HOWN.out HOB.out (by decide))
  have hd0 := hset1.cell 0
  have hd3 := hset1.cell 3
  simp at hd0 hd3
  have H1 := Lib.hid (And.intro hord (And.intro hown1 (And.intro hg1 (And.intro hset1 (And.intro hbb1 (And.intro hob1 hlen))))))
  have hsrc : ∀ j u, (es'.map encM)[j]? = some u → w1.cell? ((⟨g, 0, none⟩ : Addr).add j) = some u := hown1.cells rfl
  have HSRC := Lib.hid hsrc
  have hl1 : (es'.map encM).length = es.length * 1 := by simp [hlen]
  have HL1 := Lib.hid hl1
  have hm1 : 0 + es.length ≤ maxLen := by unfold maxLen; omega
  have hm2 : (0 + es.length) * 8 ≤ 140737488355328 := by omega
  have HM1 := Lib.hid hm1
  have HM2 := Lib.hid hm2
  clear hord hown1 hg1 hset1 hbb1 hob1 hlen hsrc hl1 hm1 hm2
  go_wp2_with (at_builtin; refine wpList_append_own _ rfl _ _ 44 rfl w1.heap.size 79 i0 (.pointer none) 1 8 Tryz.underlying44 hi hz0 hz1 hz2 rfl (by decide) (.slice none 0 0) 0 [] rfl (World.ownsRow_nil _ _ _ _) ⟨g, 0, none⟩ es.length cap (es'.map encM) rfl HL1.out HSRC.out (enc_oneCell es') HM1.out HM2.out (Nat.le_refl _) ?_; intro v2 w2 hown2 hg2 _; obtain ⟨g2, c2, hv2⟩ := own_at hown2 (by have := List.length_pos_iff.2 h0; omega); rw [hv2] at hown2 ⊢; clear hv2; rw [Nat.zero_add, List.nil_append] at hown2; rw [Nat.zero_add]; have hset2 := H1.out.2.2.2.1.grown hg2 (by simp [Value.ownBlock]); have he3 := hset2.cell 3; simp at he3; have H2 := Lib.hid (And.intro hown2 (And.intro hg2 hset2)); clear hown2 hg2 hset2)
  -- what stands behind the copy of the list
  have hB2 : w.heap.size < w2.heap.size := by
    have h1 := HSZ.out
    have h2 := H1.out.2.2.1.size
    have h3 := H2.out.2.1.size
    omega
  have hbb2 : Box w2 w.heap.size 58 #[.slice none 0 0] := H1.out.2.2.2.2.1.grown H2.out.2.1 (by simp [Value.ownBlock])
  have hob2 : Box w2 ob 58 #[.slice none 0 0] := H1.out.2.2.2.2.2.1.grown H2.out.2.1 (by simp [Value.ownBlock])
  have hkeep : ∀ k, k < w.heap.size → k ≠ g → w2.heap[k]? = w.heap[k]? := fun k hk hne => by
    have h1 := HSZ.out
    have h2 := H1.out.2.2.1.size
    rw [H2.out.2.1.block k (by omega) (by simp [Value.ownBlock]), H1.out.2.2.1.block k (by omega) (by simpa [Value.ownBlock] using hne), HOLD.out k hk]
  have hbel2 : Below B w w2 := by
    refine HBEL.out.trans (((Below.refl B w0).grown H1.out.2.2.1 (by have := HSZ.out; omega) (fun k hk => ?_)).grown H2.out.2.1 ?_ (fun k hk => ?_))
    · simp [Value.ownBlock] at hk
      omega
    · have h1 := HSZ.out
      have h2 := H1.out.2.2.1.size
      omega
    · simp [Value.ownBlock] at hk
  have hg2 : w.heap.size < g2 ∧ g2 < w2.heap.size := by
    have h1 := HSZ.out
    have h2 := H1.out.2.2.1.size
    have h3 := H2.out.1.lt g2 rfl
    omega
  have hmets : ∀ e ∈ es', Fit w B T fM line e ∧ e.nb < w.heap.size ∧ e.cb < w.heap.size ∧ e.nb ≠ g ∧ e.cb ≠ g := fun e he => by
    have hf := HM.out e (H1.out.1.1.mem_iff.1 he)
    obtain ⟨t, cs, hb, ht, _⟩ := hf.held
    refine ⟨hf, hf.named.lt, hb.lt, fun h => ?_, fun h => ?_⟩
    · exact own_apart HOWN.out ((HOLD.out _ hf.named.lt).trans hf.named) (by decide) (by simp [Value.ownBlock, h])
    · exact own_apart HOWN.out ((HOLD.out _ hb.lt).trans hb) (fun h => ht h.symm) (by simp [Value.ownBlock, h])
  have HK := Lib.hid hkeep
  have HBL2 := Lib.hid hbel2
  have HG2 := Lib.hid hg2
  have HMS := Lib.hid hmets
  have HBB2 := Lib.hid hbb2
  have HOB2 := Lib.hid hob2
  have HLEN : Hid (es'.length = es.length) := Lib.hid H1.out.2.2.2.2.2.2
  have hrow : ∀ j u, (es'.map encM)[j]? = some u → w2.cell? ((⟨g2, 0, none⟩ : Addr).add j) = some u := H2.out.1.cells rfl
  have HROW := Lib.hid hrow
  clear hkeep hbel2 hg2 hmets hbb2 hob2 hrow he3 hd0 hd3 hc0
  go_loopw [7, 30] (fun fam i wr => ∃ (k : Nat) (r : ByteArray), k ≤ es.length ∧ i = .int .i64 k ∧ fam = .string r ∧ BufIs wr w2.heap.size w.heap.size (text line (es'.take k)) ∧ But w2.heap.size w.heap.size w2 wr) (fun _ i _ => es.length - (intOf i).toNat)
  case atStart => exact ⟨0, ⟨#[]⟩, Nat.zero_le _, rfl, rfl, ⟨_, HBB2.out, World.ownsRow_nil _ _ _ _⟩, But.refl _ _ _⟩
  case round =>
    obtain ⟨k, r, hk, rfl, rfl, hbf, hbt⟩ := hrel
    have HBF := Lib.hid hbf
    have HBT := Lib.hid hbt
    clear hbf hbt
    by_cases hlt2 : k < es.length
    · have hlt3 : k < es'.length := by rw [HLEN.out]; exact hlt2
      obtain ⟨e, he⟩ : ∃ e, e = es'[k] := ⟨_, rfl⟩
      obtain ⟨hfit, hn1, hn2, hn3, hn4⟩ := HMS.out e (by rw [he]; exact List.getElem_mem _)
      have hbn : Box wr e.nb 82 #[.string e.name, .iface T (.pointer (some ⟨e.cb, 0, none⟩)), .bool false] :=
        Box.but ((HK.out _ hn1 hn3).trans hfit.named : Box w2 _ _ _) HBT.out (by omega) (by omega)
      have hbs : Box wr sb 47 #[.slice (some ⟨g, 0, none⟩) es.length cap, mv, .bool false, .slice none 0 0] := H2.out.2.2.but HBT.out (by omega) (by omega)
      have c1 := hbn.cell 0
      have c2' := hbn.cell 1
      have c3 := hbs.cell 2
      simp at c1 c2' c3
      have c4 : wr.cell? ⟨g2, k, none⟩ = some (.pointer (some ⟨e.nb, 0, none⟩)) := by
        have h := HROW.out k (encM e) (by rw [he]; simp [hlt3])
        rw [Lib.add_plain, Nat.zero_add] at h
        rw [World.cell?_of_block (w := w2) (HBT.out.block g2 HG2.out.2 (by have := HG2.out; omega))]
        exact h
      have HFIT := Lib.hid hfit
      have HE := Lib.hid he
      have HLE : Hid ((text line (es'.take k)).length + (line e).length ≤ 1000000) := by
        have h1 := text_le line (es'.take k) (fun x hx => (HMS.out x (List.mem_of_mem_take hx)).1.len.2)
        have h2 := hfit.len.2
        have h3 := List.length_take_le k es'
        refine Lib.hid ?_
        omega
      have hte := K.tEnter
      have hme := K.mEnter
      have ht := fun n W => K.tMethod n ⟨e.cb, 0, none⟩ W
      have hm := fun n W => K.mMethod n ⟨e.cb, 0, none⟩ W
      clear hbn hbs hfit he
      go_wp2_with fail
      refine (family_any e.name _).mono ?_
      rintro r' w' ⟨⟨fam, rfl⟩, rfl⟩
      go_wp2_with fail
      · refine (K.type _ _).mono ?_
        rintro r2 w' ⟨⟨mt, rfl⟩, rfl⟩
        go_wp2_with fail
        go_quiet ((go_at_call 38; exact Calls.quiet_of_same ((noMetadata _ _ _ _).mono fun _ _ h => ⟨h.1, h.2.symm⟩)))
        go_wp2_with fail
        have q1 : (wr.drewN nq).cell? ⟨e.nb, 0, none⟩ = some (.string e.name) := c1
        have q2 : (wr.drewN nq).cell? ⟨e.nb, 1, none⟩ = some (.iface T (.pointer (some ⟨e.cb, 0, none⟩))) := c2'
        have HBF2 : Hid (BufIs (wr.drewN nq) w2.heap.size w.heap.size (text line (es'.take k))) := HBF.out
        have HBT2 : Hid (But w2.heap.size w.heap.size w2 (wr.drewN nq)) := Lib.hid (HBT.out.trans (But.of_below (below_drewN (Below.refl w2.heap.size wr) nq) (Nat.le_refl _)))
        clear c1 c2' c3 c4
        generalize wr.drewN nq = wq at q1 q2 HBF2 HBT2 ⊢
        clear HBF HBT
        go_still_tail 11, (by kernel_rfl)
        go_wp2_with fail
        refine (HFIT.out.writes _ w2.heap.size w.heap.size (text line (es'.take k)) ?_ ?_ ?_ ?_ ?_).mono ?_
        · exact (HBT2.out.block e.cb (by omega) (by omega)).trans (HK.out e.cb hn2 hn4)
        · exact HBL2.out.trans (HBT2.out.below (by omega) (by omega)).drew
        · exact HBT2.out.size
        · exact HBF2.out
        · exact HLE.out
        · rintro e' w' ⟨rfl, hb', ht'⟩
          have HB' := Lib.hid hb'
          have HT' := Lib.hid ht'
          clear hb' ht'
          go_wp2
          go_roundw
          case rel =>
            refine ⟨k + 1, fam, by omega, by go_num, rfl, ?_, (HBT2.out.trans (But.of_below (Below.refl w2.heap.size wq).drew (Nat.le_refl _))).trans HT'.out⟩
            rw [text_snoc line es' k hlt3, ← HE.out]
            exact HB'.out
          case measure => simp [intOf]; omega
      · go_still_tail 11, (by kernel_rfl)
        go_wp2_with fail
        refine (HFIT.out.writes _ w2.heap.size w.heap.size (text line (es'.take k)) ?_ ?_ ?_ ?_ ?_).mono ?_
        · exact (HBT.out.block e.cb (by omega) (by omega)).trans (HK.out e.cb hn2 hn4)
        · exact HBL2.out.trans (HBT.out.below (by omega) (by omega)).drew
        · exact HBT.out.size
        · exact HBF.out
        · exact HLE.out
        · rintro e' w' ⟨rfl, hb', ht'⟩
          have HB' := Lib.hid hb'
          have HT' := Lib.hid ht'
          clear hb' ht'
          go_wp2
          go_roundw
          case rel =>
            refine ⟨k + 1, r, by omega, by go_num, rfl, ?_, (HBT.out.trans (But.of_below (Below.refl w2.heap.size wr).drew (Nat.le_refl _))).trans HT'.out⟩
            rw [text_snoc line es' k hlt3, ← HE.out]
            exact HB'.out
          case measure => simp [intOf]; omega
    · have hks : k = es.length := by omega
      subst hks
      have htk : es'.take es.length = es' := by rw [← HLEN.out, List.take_length]
      have hbuf3 := HBF.out
      rw [htk] at hbuf3
      clear htk
      obtain ⟨v3, hbx3, hown3⟩ := hbuf3
      have hpos := text_pos line es' (by intro h; have := HLEN.out; rw [h] at this; have := List.length_pos_iff.2 h0; simp at *; omega) (fun x hx => (HMS.out x hx).1.len.1)
      have hle := text_le line es' (fun x hx => (HMS.out x hx).1.len.2)
      rw [HLEN.out] at hle
      obtain ⟨g3, c3, hv3⟩ := own_at hown3 hpos
      subst hv3
      have hcl := hown3.cells (g := g3) rfl
      have hobx : Box wr ob 58 #[.slice none 0 0] := HOB2.out.but HBT.out (by omega) (by omega)
      have hobuf : BufIs wr ob ob [] := ⟨_, hobx, World.ownsRow_nil _ _ _ _⟩
      have hwl : ob ≤ wr.heap.size := by have := hobx.lt; omega
      have HWRITE := Lib.hid (bufWrite_any ob ob [] (text line es') ⟨g3, 0, none⟩ (text line es').length c3 wr rfl hwl hobuf hcl (by simp; omega))
      have d1 := hbx3.cell 0
      simp at d1
      have hme := fun n => bufMethod n ⟨ob, 0, none⟩
      have HFB := Lib.hid (HBL2.out.trans (HBT.out.below (B' := B) (by omega) (by omega)))
      clear hbx3 hown3 hcl hobx hobuf hwl hle hpos
      go_wp2_with fail
      refine HWRITE.out.mono ?_
      rintro e w4 ⟨rfl, hb4, ht4⟩
      have HB4 := Lib.hid hb4
      have HT4 := Lib.hid ht4
      clear hb4 ht4
      go_wp2
      refine wp_loop_rounds 1 ?_
      rw [rounds_succ]
      go_wp2
      go_end0
      exact ⟨rfl, es', H1.out.1, by have := HB4.out; rwa [List.nil_append] at this, HFB.out.trans (HT4.out.below hob hob)⟩
end Go.Proofs.YtlimibjmccbdlaaGreatDoor
