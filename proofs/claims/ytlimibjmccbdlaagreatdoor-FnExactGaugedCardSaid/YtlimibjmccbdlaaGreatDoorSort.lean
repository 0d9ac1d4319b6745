/-
  SortStableFunc over a set's metrics, at most twenty of them: the row is permuted, in order of names; nothing else that was there turns.
-/
import Derived.Test.YtlimibjmccbdlaaGreatDoorCount
import Derived.Sort.LotA
import Derived.Lib.OwnBridge
import Derived.BigQuiet
import Derived.Deep.QuietTactic
import Derived.LoopN
namespace Go.Proofs.YtlimibjmccbdlaaGreatDoor
open Go.RowKit Go.Sort

/-- How a metric stands in a set's list. -/
def encM (e : Met) : Value := .pointer (some ⟨e.nb, 0, none⟩)
/-- How names compare. -/
def cmpM (a b : Met) : Int := Lib.compareBytes a.name.data.toList b.name.data.toList

theorem cmpB_self (a : List UInt8) : Lib.compareBytes a a = 0 := by
  induction a with
  | nil => rfl
  | cons x a ih => simp [Lib.compareBytes, ih]
theorem cmpB_lt : ∀ a b : List UInt8, Lib.compareBytes a b < 0 ↔ a < b
  | [], [] => by simp [Lib.compareBytes]
  | [], _ :: _ => by simp [Lib.compareBytes]
  | _ :: _, [] => by simp [Lib.compareBytes]
  | x :: a, y :: b => by
    unfold Lib.compareBytes
    rw [List.cons_lt_cons_iff]
    by_cases h1 : x < y
    · simp [h1]
    · rw [if_neg h1]
      by_cases h2 : y < x
      · have hne : x ≠ y := fun e => by subst e; exact h1 h2
        simp [h1, h2, hne]
      · have he : x = y := UInt8.le_antisymm (UInt8.not_lt.1 h2) (UInt8.not_lt.1 h1)
        rw [if_neg h2]
        simp [he, cmpB_lt a b]
theorem cmpB_trans {a b c : List UInt8} (h1 : Lib.compareBytes a b < 0) (h2 : Lib.compareBytes b c < 0) : Lib.compareBytes a c < 0 := by
  rw [cmpB_lt] at *
  haveI : Trans (· < · : UInt8 → UInt8 → Prop) (· < ·) (· < ·) := ⟨UInt8.lt_trans⟩
  exact List.lt_trans h1 h2
theorem cmpB_ntrans {a b c : List UInt8} (h1 : ¬ Lib.compareBytes a b < 0) (h2 : ¬ Lib.compareBytes b c < 0) : ¬ Lib.compareBytes a c < 0 := by
  rw [cmpB_lt] at *
  rw [List.not_lt] at *
  exact List.le_trans h2 h1

/-- The closure that compares two metrics by their names. -/
theorem cmpFn (x y : Nat) (a b : ByteArray) (u v u' v' : Value) (w : World) (hx : Box w x 82 #[.string a, u, u']) (hy : Box w y 82 #[.string b, v, v']) :
    Calls Tryz.prog 35 #[.pointer (some ⟨x, 0, none⟩), .pointer (some ⟨y, 0, none⟩)] w fun e w' => e = .returned (.int .i64 (Lib.compareBytes a.data.toList b.data.toList)) ∧ ∃ q, w' = w.drewN q := by
  have hcx := hx.cell 0
  have hcy := hy.cell 0
  simp at hcx hcy
  have HC := Lib.hid (fun W : World => Tryz.strings_Compare a b W)
  clear hx hy
  go_enter Tryz.func35, Tryz.ntmps35
  go_wp2_with fail
  go_quiet ((go_at_call 36; exact Calls.quiet_of_same (HC.out _)))
  go_wp2
  go_ret
  exact ⟨rfl, _, rfl⟩

/-- Behind the sort's exchanges every block but the row's is as it was. -/
theorem sortWorld_block {α : Type} [Inhabited α] (enc : α → Value) (w : World) (blk m : Nat) (d : Array α) (os : Array Obj) (k : Nat) (hk : k < w.heap.size) (hne : k ≠ blk) : (sortWorld enc w blk 0 m d os).heap[k]? = w.heap[k]? := by
  unfold sortWorld
  rw [heap_grow_old _ _ (by simpa using hk)]
  simp only [putRow, mapBlock, Array.getElem?_modify, Sort.ahead]
  rw [if_neg (fun e => hne e.symm)]
theorem sortWorld_grown {α : Type} [Inhabited α] (enc : α → Value) (w : World) (blk m : Nat) (d : Array α) (os : Array Obj) : w.grownBy (sortWorld enc w blk 0 m d os) (some blk) :=
  ⟨rfl, rfl, rfl, by simp [sortWorld], fun k hk hne => sortWorld_block enc w blk m d os k hk (fun e => hne (by rw [e]))⟩
theorem grownBy_grow (w : World) (os : Array Obj) : w.grownBy (grow w os) none := ⟨rfl, rfl, rfl, by simp, fun k hk _ => heap_grow_old w os hk⟩

/-- No element: nothing is sorted. -/
theorem insertNone (v f : Value) (w : World) :
    Calls Tryz.prog 56 #[v, .int .i64 0, .int .i64 0, f] w fun e w' => e = .returned (.tuple #[]) ∧ w = w' := by
  go_enter Tryz.func56, Tryz.ntmps56
  go_wp2
  refine wp_loop_rounds 1 ?_
  rw [rounds_succ]
  go_wp2
  go_end0
  exact ⟨rfl, rfl⟩

/-- A set's list behind the sort: the same metrics, in order of names. -/
def Ordered (es es' : List Met) : Prop := es'.Perm es ∧ es'.Pairwise (fun a b => ¬ cmpM b a < 0)

theorem cmp_swo {n : Nat} (f : Fin (n + 1) → Met) : SWO (ltOf fun i j => cmpM (f i) (f j)) := by
  refine ⟨fun x => ?_, fun x y z h1 h2 => ?_, fun x y z h1 h2 => ?_⟩
  · refine decide_eq_false ?_
    have := cmpB_self (f x).name.data.toList
    show ¬ Lib.compareBytes _ _ < 0
    omega
  · exact decide_eq_true (cmpB_trans (of_decide_eq_true h1) (of_decide_eq_true h2))
  · exact decide_eq_false (cmpB_ntrans (of_decide_eq_false h1) (of_decide_eq_false h2))

def pickM (es : List Met) (n : Nat) (hn : es.length = n + 1) (i : Fin (n + 1)) : Met := es[i.val]'(by have := i.isLt; omega)
theorem pickM_mem (es : List Met) (n : Nat) (hn : es.length = n + 1) (i : Fin (n + 1)) : pickM es n hn i ∈ es := List.getElem_mem _

/-- insertionSortCmpFunc over the whole list, or over none of its places. -/
theorem insertAll (B : Nat) (es : List Met) (g cap n : Nat) (w : World) (hn : es.length = n + 1) (h20 : es.length ≤ 20) (hown : w.ownsRow B 79 1 (.slice (some ⟨g, 0, none⟩) es.length cap) es.length (es.map encM))
    (hm : ∀ e ∈ es, ∃ u v, Box w e.nb 82 #[.string e.name, u, v]) :
    Calls Tryz.prog 56 #[.slice (some ⟨g, 0, none⟩) es.length cap, .int .i64 0, .int .i64 es.length, .func (.func 35) #[] #[]] w
      fun e w' => e = .returned (.tuple #[]) ∧ ∃ es', Ordered es es' ∧ w'.ownsRow B 79 1 (.slice (some ⟨g, 0, none⟩) es.length cap) es.length (es'.map encM) ∧ w.grownBy w' (some g) := by
  obtain ⟨f, hf⟩ : ∃ f : Fin (n + 1) → Met, f = pickM es n hn := ⟨_, rfl⟩
  obtain ⟨d0, hd0⟩ : ∃ d0 : Array (Fin (n + 1)), d0 = Array.ofFn (fun i : Fin (n + 1) => i) := ⟨_, rfl⟩
  have hsz : d0.size = es.length := by rw [hd0, hn]; simp
  have hmap : d0.toList.map f = es := by
    rw [hd0, hf]
    apply List.ext_getElem
    · simp [hn]
    · intro i h1 h2
      rw [List.getElem_map, Array.getElem_toList, Array.getElem_ofFn]
      rfl
  have hown0 : w.ownsRow B 79 1 (.slice (some ⟨g, 0, none⟩) es.length cap) es.length (d0.toList.map fun i => encM (f i)) := by
    have : (d0.toList.map fun i => encM (f i)) = es.map encM := by rw [← hmap, List.map_map]; rfl
    rw [this]
    exact hown
  have hH : Holds (fun i => encM (f i)) w g 0 d0 := by
    obtain ⟨g', cap', hv, _, _, _, _, _, h⟩ := Lib.holds_of_ownsRow hown0 (by intro h; cases h)
    injection hv with h1 h2 h3
    injection h1 with h1
    injection h1 with h1
    subst h1
    exact h
  have hlt : g < w.heap.size := (hown.lt g rfl).2
  have hne : ∀ i : Fin (n + 1), (f i).nb ≠ g := fun i => by
    obtain ⟨u, v, hb⟩ := hm (f i) (by rw [hf]; exact pickM_mem _ _ _ _)
    intro e
    exact own_apart hown hb (by decide) (by simp [Value.ownBlock, e])
  have hcmp : CmpLays1 Tryz.prog 35 #[] (fun i => encM (f i)) (fun i j => cmpM (f i) (f j)) g 0 d0.size w := by
    refine CmpReads.lays (fun m os dk hs x y => ?_)
    obtain ⟨u, v, hb⟩ := hm (f x) (by rw [hf]; exact pickM_mem _ _ _ _)
    obtain ⟨u', v', hb'⟩ := hm (f y) (by rw [hf]; exact pickM_mem _ _ _ _)
    exact cmpFn (f x).nb (f y).nb (f x).name (f y).name u u' v v' _
      ((sortWorld_block _ w g m dk os _ hb.lt (hne x)).trans hb) ((sortWorld_block _ w g m dk os _ hb'.lt (hne y)).trans hb')
  have h := Tryz.insertionSortCmp (fun i => encM (f i)) (fun i j => cmpM (f i) (f j)) 35 #[] g 0 cap 0 d0.size d0 d0 w w
    (fun args w => by kernel_rfl) hcmp ⟨fun _ => rfl, hH, hlt⟩ rfl (SW.start hH) (Nat.zero_le _) (Nat.le_refl _) (by rw [hsz]; omega)
  rw [hsz] at h
  refine h.mono ?_
  rintro e w' ⟨rfl, m, os, rfl⟩
  obtain ⟨hp, hs⟩ := insertionSort_holds (cmp_swo f) d0 0 d0.size (Nat.zero_le _) (Nat.le_refl _)
  rw [hsz] at hp hs
  generalize Sort.insertionSort (ltOf fun i j => cmpM (f i) (f j)) d0 0 es.length = d1 at hp hs ⊢
  obtain ⟨hp1, _, hp2⟩ := hp
  have hs1 : d1.size = es.length := by rw [hp1, hsz]
  rw [← hs1, Array.extract_size, hs1, ← hsz, Array.extract_size] at hp2
  refine ⟨rfl, d1.toList.map f, ⟨?_, ?_⟩, ?_, sortWorld_grown _ w g m d1 os⟩
  · rw [← hmap]
    exact hp2.map f
  · rw [List.pairwise_map]
    rw [List.pairwise_iff_getElem]
    intro i j hi hj hij
    have := hs i j (Nat.zero_le _) hij (by simpa [hs1] using hj)
    have this := of_decide_eq_false this
    rw [getElem!_pos d1 i (by simpa using hi), getElem!_pos d1 j (by simpa using hj)] at this
    simpa using this
  · have h1 := Lib.ownsRow_putRow (q := m) (k := es.length) (ys := d1.toList) hown0 (by simpa using hs1) (Nat.le_refl _)
    rw [List.take_of_length_le (by simp [hs1])] at h1
    have h2 := h1.kept (w' := sortWorld (fun i => encM (f i)) w g 0 m d1 os) (row := none) (grownBy_grow _ os) (.inr (by simp [Value.ownBlock]))
    rw [List.map_map]
    exact h2

theorem insertNone20 (v f : Value) (w : World) :
    Calls Tryz.prog 56 #[v, .int .i64 20, .int .i64 20, f] w fun e w' => e = .returned (.tuple #[]) ∧ w = w' := by
  go_enter Tryz.func56, Tryz.ntmps56
  go_wp2
  refine wp_loop_rounds 1 ?_
  rw [rounds_succ]
  go_wp2
  go_end0
  exact ⟨rfl, rfl⟩

def Sorts (B : Nat) (es : List Met) (sv : Value) (w : World) (e : Ending) (w' : World) : Prop :=
  e = .returned (.tuple #[]) ∧ ∃ es', Ordered es es' ∧ w'.ownsRow B 79 1 sv es.length (es'.map encM) ∧ w.grownBy w' sv.ownBlock

set_option maxHeartbeats 1000000 in
theorem stable_any (B : Nat) (es : List Met) (A : Option Addr) (cap : Nat) (w : World) (h20 : es.length ≤ 20) (hown : w.ownsRow B 79 1 (.slice A es.length cap) es.length (es.map encM))
    (hm : ∀ e ∈ es, ∃ u v, Box w e.nb 82 #[.string e.name, u, v]) :
    Calls Tryz.prog 47 #[.slice A es.length cap, .int .i64 es.length, .func (.func 35) #[] #[]] w (Sorts B es (.slice A es.length cap) w) := by
  by_cases h0 : es = []
  · subst h0
    have hfin : Sorts B [] (.slice A 0 cap) w (.returned (.tuple #[])) w := ⟨rfl, [], ⟨List.Perm.refl _, List.Pairwise.nil⟩, hown, World.grownBy.refl w _⟩
    have HF := Lib.hid hfin
    clear hfin hown hm h20
    simp only [List.length_nil]
    go_enter Tryz.func47, Tryz.ntmps47
    go_wp2
    refine wp_loop_rounds 1 ?_
    rw [rounds_succ]
    go_wp2_with (go_at_call 56; refine (insertNone _ _ _).mono ?_; rintro e w' ⟨rfl, rfl⟩)
    refine wp_loop_rounds 1 ?_
    rw [rounds_succ]
    go_wp2
    go_end0
    exact HF.out
  · obtain ⟨n, hn⟩ : ∃ n, es.length = n + 1 := ⟨es.length - 1, by have := List.length_pos_iff.2 h0; omega⟩
    obtain ⟨g, cap', hv⟩ : ∃ g cap', Value.slice A es.length cap = .slice (some ⟨g, 0, none⟩) es.length cap' := by
      rcases hown.2 with ⟨_, hz⟩ | ⟨g, cap', cur, hv, _⟩
      · omega
      · exact ⟨g, cap', hv⟩
    obtain ⟨rfl⟩ : A = some ⟨g, 0, none⟩ := by injection hv
    have HI := Lib.hid (insertAll B es g cap n w hn h20 hown hm)
    clear hown hm hv
    by_cases hlt : es.length < 20
    · clear hn h0
      go_enter Tryz.func47, Tryz.ntmps47
      go_wp2
      refine wp_loop_rounds 1 ?_
      rw [rounds_succ]
      go_wp2_with fail
      refine HI.out.mono ?_
      rintro e w' ⟨rfl, h⟩
      have H := Lib.hid h
      clear h
      go_wp2
      refine wp_loop_rounds 1 ?_
      rw [rounds_succ]
      go_wp2
      go_end0
      exact ⟨rfl, H.out⟩
    · have he : es.length = 20 := by omega
      rw [he] at HI
      have HE := Lib.hid he
      clear hn h0 h20 hlt
      rw [he]
      clear he
      go_enter Tryz.func47, Tryz.ntmps47
      go_wp2
      refine wp_loop_rounds 2 ?_
      rw [rounds_succ]
      go_wp2_with fail
      refine HI.out.mono ?_
      rintro e w' ⟨rfl, h⟩
      have H := Lib.hid h
      clear h
      go_wp2
      rw [rounds_succ]
      go_wp2_with (go_at_call 56; refine (insertNone20 _ _ _).mono ?_; rintro e w' ⟨rfl, rfl⟩)
      refine wp_loop_rounds 1 ?_
      rw [rounds_succ]
      go_wp2
      go_end0
      refine ⟨rfl, ?_⟩
      have h := H.out
      rw [← HE.out] at h ⊢
      exact h

theorem sortStable_any (B : Nat) (es : List Met) (A : Option Addr) (cap : Nat) (w : World) (h20 : es.length ≤ 20) (hown : w.ownsRow B 79 1 (.slice A es.length cap) es.length (es.map encM))
    (hm : ∀ e ∈ es, ∃ u v, Box w e.nb 82 #[.string e.name, u, v]) :
    Calls Tryz.prog 34 #[.slice A es.length cap, .func (.func 35) #[] #[]] w (Sorts B es (.slice A es.length cap) w) := by
  have HS := Lib.hid (stable_any B es A cap w h20 hown hm)
  clear hown hm
  go_enter Tryz.func34, Tryz.ntmps34
  go_wp2_with fail
  refine HS.out.mono ?_
  rintro e w' ⟨rfl, h⟩
  have H := Lib.hid h
  clear h
  go_wp2
  go_end0
  exact ⟨rfl, H.out⟩
end Go.Proofs.YtlimibjmccbdlaaGreatDoor
