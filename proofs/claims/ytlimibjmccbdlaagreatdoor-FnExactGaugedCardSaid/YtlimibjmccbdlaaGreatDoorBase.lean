/-
  Words on memory that the other texts of this seat use: a block known whole ('Box'); a map from strings to pointers ('MapIs'). No function of the program is walked here.
-/
import Derived.Test.YtlimibjmccbdlaaGreatDoorRows
import Derived.WalkKit
import Derived.WalkSpells
import Derived.WalkLawsBesides
import Derived.Deep.Draws
import Derived.Maps.OwnSet
import Derived.Lib.Hide
namespace Go.Proofs.YtlimibjmccbdlaaGreatDoor
open Go.RowKit

/-- Block g of w holds just the cells cs of type t; none is frozen. -/
def Box (w : World) (g : Nat) (t : TypeId) (cs : Array Value) : Prop := w.heap[g]? = some (.cells cs t (0, 0))

section
variable {w w' : World} {g : Nat} {t : TypeId} {cs : Array Value}
theorem Box.lt (h : Box w g t cs) : g < w.heap.size := (Array.getElem?_eq_some_iff.1 h).1
theorem Box.cell (h : Box w g t cs) (i : Nat) : w.cell? ⟨g, i, none⟩ = cs[i]? := cell_of_row w g i cs t (0, 0) h
theorem Box.free (h : Box w g t cs) (i : Nat) : w.frozen? ⟨g, i, none⟩ = false := by
  unfold Box at h
  simp [World.frozen?, h]
theorem Box.made (w : World) (t : TypeId) (cs : Array Value) : Box (w.alloc (.cells cs t)) w.heap.size t cs := heap_alloc_new w _
theorem Box.drew (h : Box w g t cs) : Box w.drew g t cs := h
theorem Box.drewN (h : Box w g t cs) (n : Nat) : Box (w.drewN n) g t cs := h
theorem Box.alloc (h : Box w g t cs) (o : Obj) : Box (w.alloc o) g t cs := (Below.heap_alloc w o g h.lt).trans h
theorem Box.stored (h : Box w g t cs) (i : Nat) (u : Value) : Box (w.setCell ⟨g, i, none⟩ u) g t (cs.setIfInBounds i u) := by
  unfold Box at h ⊢
  simp [World.setCell, Array.getElem?_modify, h]
theorem Box.aside (h : Box w g t cs) {p : Addr} (hp : g ≠ p.block) (u : Value) : Box (w.setCell p u) g t cs := (Below.heap_setCell w p u g hp).trans h
theorem Box.below {B : Nat} (h : Box w g t cs) (hb : Below B w w') (hg : g < B) : Box w' g t cs := (hb.block g hg).trans h
theorem Box.grown {row : Option Nat} (h : Box w g t cs) (hb : w.grownBy w' row) (hg : some g ≠ row) : Box w' g t cs := (hb.block g h.lt hg).trans h
theorem Box.apart {g' : Nat} {t' : TypeId} {cs' : Array Value} (h : Box w g t cs) (h' : Box w g' t' cs') (hne : t ≠ t') : g ≠ g' := by
  intro e
  subst e
  unfold Box at h h'
  rw [h] at h'
  injection h' with h'
  injection h' with _ ht
  exact hne ht
/-- A row of the call's own lies in another block than a box of another type. -/
theorem own_apart {base : Nat} {e : TypeId} {size n : Nat} {v : Value} {xs : List Value} (h : w.ownsRow base e size v n xs) (hg : Box w g t cs) (hne : e ≠ t) : v.ownBlock ≠ some g := by
  rcases h.2 with ⟨rfl, _⟩ | ⟨g', cap, cur, rfl, _, hh, _⟩
  · simp [Value.ownBlock]
  · intro he
    have : g' = g := by simpa [Value.ownBlock] using he
    subst this
    exact Box.apart (t := e) hh hg hne rfl
theorem own_apart' {base : Nat} {e : TypeId} {size n : Nat} {v : Value} {xs : List Value} (h : w.ownsRow base e size v n xs) (hg : Box w g t cs) (hne : e ≠ t) : some g ≠ v.ownBlock := fun he => own_apart h hg hne he.symm
theorem own_stored {base : Nat} {e : TypeId} {size n : Nat} {v : Value} {xs : List Value} (h : w.ownsRow base e size v n xs) (hg : Box w g t cs) (hne : e ≠ t) (i : Nat) (u : Value) : (w.setCell ⟨g, i, none⟩ u).ownsRow base e size v n xs := by
  refine h.kept (w' := w.setCell ⟨g, i, none⟩ u) (row := some g) ?_ (.inr (own_apart h hg hne))
  exact ⟨rfl, rfl, rfl, by simp [World.setCell], fun k _ hk => Below.heap_setCell w _ u k (fun e => hk (by rw [e]))⟩
end

theorem below_drewN {B : Nat} {a w : World} (h : Below B a w) (n : Nat) : Below B a (w.drewN n) := ⟨h.os, h.tape, h.output, h.size, h.block⟩

/-! ### a map from strings to pointers -/
/-- How a pointer to the begin of a block reads. -/
def ptrElem (v : Value) : Option (DataW Nat × List MemPlace) :=
  match v with
  | .pointer none => some (.nil, [])
  | .pointer (some ⟨b, 0, none⟩) => some (.held b, [])
  | _ => none
theorem ptrElem_nil : ptrElem (.pointer none) = some (.nil, []) := rfl
theorem ptrElem_at (b : Nat) : ptrElem (.pointer (some ⟨b, 0, none⟩)) = some (.held b, []) := rfl
theorem ptrElem_held {v : Value} {b : Nat} {ps : List MemPlace} (h : ptrElem v = some (.held b, ps)) : v = .pointer (some ⟨b, 0, none⟩) := by
  unfold ptrElem at h
  split at h
  · simp at h
  · simp only [Option.some.injEq, Prod.mk.injEq, DataW.held.injEq] at h
    rw [h.1]
  · simp at h
theorem ptrElem_none {v : Value} {ps : List MemPlace} (h : ptrElem v = some (.nil, ps)) : v = .pointer none := by
  unfold ptrElem at h
  split at h
  · rfl
  · simp at h
  · simp at h

/-- One metric of a set: its name's block, its number's block, its name, what it holds. -/
structure Met where
  nb : Nat
  cb : Nat
  name : ByteArray
  v : Int

/-- The metric of that name, if the list has one. -/
def look (es : List Met) (l : List UInt8) : Option Met := es.find? (fun e => e.name.data.toList == l)

theorem look_some {es : List Met} {l : List UInt8} {e : Met} (h : look es l = some e) : e ∈ es ∧ e.name.data.toList = l :=
  ⟨List.mem_of_find?_eq_some h, by simpa using List.find?_some h⟩
theorem look_none {es : List Met} {l : List UInt8} (h : look es l = none) : ∀ e ∈ es, e.name.data.toList ≠ l := by
  intro e he hl
  have := List.find?_eq_none.1 h e he
  simp [hl] at this
theorem look_append (es : List Met) (e : Met) (l : List UInt8) (h : look es e.name.data.toList = none) :
    look (es ++ [e]) l = if e.name.data.toList = l then some e else look es l := by
  unfold look at *
  rw [List.find?_append]
  by_cases hl : e.name.data.toList = l
  · rw [if_pos hl, ← hl, h]
    simp
  · rw [if_neg hl]
    have hx : ([e].find? fun e => e.name.data.toList == l) = none := by simp [hl]
    rw [hx]
    simp

def MapIs (w : World) (mb : Nat) (es : List Met) : Prop :=
  ∃ D : DataW Nat, w.ownsMap Tryz.prog 9 ptrElem mb es.length D ∧ Maps.IsMap D ∧ ∀ (l : List UInt8) (z : DataW Nat), D.atKey (.string l) z = match look es l with | some e => .held e.nb | none => z

theorem keyed : Maps.Keyed Tryz.prog 9 := Maps.string_keyed Tryz.underlying9

section
variable {w w' : World} {mb : Nat} {es : List Met}
theorem MapIs.lt (h : MapIs w mb es) : mb < w.heap.size := by obtain ⟨D, h, _⟩ := h; exact h.lt
theorem MapIs.made (w : World) : MapIs (w.alloc (.map #[] 0)) w.heap.size [] :=
  ⟨.map [], World.ownsMap_made _ _ _ _, Maps.isMap_empty, fun _ _ => rfl⟩
theorem MapIs.kept {row : Option Nat} (h : MapIs w mb es) (hg : w.grownBy w' row) (hne : some mb ≠ row) : MapIs w' mb es := by
  obtain ⟨D, h, r⟩ := h
  exact ⟨D, h.kept hg hne, r⟩
theorem MapIs.block (h : MapIs w mb es) (hb : w'.heap[mb]? = w.heap[mb]?) : MapIs w' mb es := by
  obtain ⟨D, ⟨x, clock, hx, r'⟩, r⟩ := h
  exact ⟨D, ⟨x, clock, hb.trans hx, r'⟩, r⟩
theorem MapIs.alloc (h : MapIs w mb es) (o : Obj) : MapIs (w.alloc o) mb es := h.block (Below.heap_alloc w o mb h.lt)
theorem MapIs.drew (h : MapIs w mb es) : MapIs w.drew mb es := h
theorem MapIs.apart {g : Nat} {t : TypeId} {cs : Array Value} (h : MapIs w mb es) (hg : Box w g t cs) : g ≠ mb := by
  intro e
  subst e
  obtain ⟨D, ⟨x, clock, hx, _⟩, _⟩ := h
  unfold Box at hg
  rw [hg] at hx
  cases hx
theorem MapIs.own_apart (h : MapIs w mb es) {base : Nat} {e : TypeId} {size n : Nat} {v : Value} {xs : List Value} (ho : w.ownsRow base e size v n xs) : v.ownBlock ≠ some mb := by
  rcases ho.2 with ⟨rfl, _⟩ | ⟨g', cap, cur, rfl, _, hh, _⟩
  · simp [Value.ownBlock]
  · intro he
    have : g' = mb := by simpa [Value.ownBlock] using he
    exact h.apart (g := g') (t := e) (cs := cur) hh this
theorem MapIs.setCell (h : MapIs w mb es) {g : Nat} {t : TypeId} {cs : Array Value} (hg : Box w g t cs) (i : Nat) (u : Value) : MapIs (w.setCell ⟨g, i, none⟩ u) mb es :=
  h.block (Below.heap_setCell w _ u mb (fun e => h.apart hg e.symm))
end

theorem zeroPtr (w : World) : (zeroValue 79).run Tryz.prog w = .ok (.pointer none) w := by kernel_rfl

/-- A look-up of a name that is there. -/
theorem MapIs.hit {w : World} {mb : Nat} {es : List Met} (h : MapIs w mb es) (s : ByteArray) (hs : s.size ≤ maxLen) {e : Met} (hl : look es s.data.toList = some e) :
    (Instr.lookup 43 (.map (some mb)) (.string s) false).run Tryz.prog w = .ok (.pointer (some ⟨e.nb, 0, none⟩)) w := by
  obtain ⟨D, hown, _, hat⟩ := h
  obtain ⟨v, ps, hrun, hv⟩ := hown.lookup (t := 43) keyed Tryz.underlying43 (zeroPtr w) ptrElem_nil (WideMaps.keyOf_string_mk Tryz.underlying9 hs)
  rw [hat, hl] at hv
  rw [hrun, ptrElem_held hv]
theorem MapIs.miss {w : World} {mb : Nat} {es : List Met} (h : MapIs w mb es) (s : ByteArray) (hs : s.size ≤ maxLen) (hl : look es s.data.toList = none) :
    (Instr.lookup 43 (.map (some mb)) (.string s) false).run Tryz.prog w = .ok (.pointer none) w := by
  obtain ⟨D, hown, _, hat⟩ := h
  obtain ⟨v, ps, hrun, hv⟩ := hown.lookup (t := 43) keyed Tryz.underlying43 (zeroPtr w) ptrElem_nil (WideMaps.keyOf_string_mk Tryz.underlying9 hs)
  rw [hat, hl] at hv
  rw [hrun, ptrElem_none hv]
/-- A store at a name that is not there. -/
theorem MapIs.store {w : World} {mb : Nat} {es : List Met} (h : MapIs w mb es) (e : Met) (hs : e.name.size ≤ maxLen) (hl : look es e.name.data.toList = none) (hn : es.length < maxLen) :
    ∃ w', (Instr.mapUpdate 43 (.map (some mb)) (.string e.name) (.pointer (some ⟨e.nb, 0, none⟩))).run Tryz.prog w = .ok () w' ∧ MapIs w' mb (es ++ [e]) ∧ w.grownBy w' (some mb) := by
  obtain ⟨D, hown, hm, hat⟩ := h
  have hkey := WideMaps.keyOf_string_mk (P := Tryz.prog) Tryz.underlying9 hs
  obtain ⟨w', hrun, hown', hg⟩ := hown.update (t := 43) keyed Tryz.underlying43 hn hkey (ptrElem_at e.nb)
  refine ⟨w', hrun, ⟨_, by simpa using hown', hm.put _ _, fun l z => ?_⟩, hg⟩
  rw [look_append es e l hl]
  by_cases hle : e.name.data.toList = l
  · rw [if_pos hle, ← hle]
    exact Maps.atKey_put_same hm (keyed.key hkey) _ _
  · rw [if_neg hle]
    have hne : Lit.string l ≠ .string e.name.data.toList := fun h => hle (Lit.string.inj h).symm
    rw [Maps.atKey_put_other hne, hat]
end Go.Proofs.YtlimibjmccbdlaaGreatDoor
