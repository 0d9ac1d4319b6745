/-
  A buffer that the call itself has made takes what is written behind what it holds: buffer.Write, io.WriteString.
-/
import Derived.Test.YtlimibjmccbdlaaGreatDoorDec
import Derived.OwnWalk
import Derived.Outline
import Derived.Stop.Asserts
namespace Go.Proofs.YtlimibjmccbdlaaGreatDoor
open Go.RowKit

/-- A byte as a cell. -/
def byteV (b : UInt8) : Value := .int .u8 (b.toNat : Int)
/-- The buffer in block bb holds the bytes l, in a row of the call's own from block B on. -/
def BufIs (w : World) (B bb : Nat) (l : List UInt8) : Prop :=
  ∃ v, Box w bb 58 #[v] ∧ w.ownsRow B 5 1 v l.length (l.map byteV)

theorem own_form {w : World} {base : Nat} {e : TypeId} {size n : Nat} {v : Value} {xs : List Value} (h : w.ownsRow base e size v n xs) : ∃ A c, v = .slice A n c := by
  rcases h.2 with ⟨rfl, rfl⟩ | ⟨g, cap, cur, rfl, _⟩
  · exact ⟨none, 0, rfl⟩
  · exact ⟨_, cap, rfl⟩
/-- Below block B nothing has turned but block b. -/
structure But (B b : Nat) (w w' : World) : Prop where
  os : w'.os = w.os
  tape : w'.tape = w.tape
  output : w'.output = w.output
  size : w.heap.size ≤ w'.heap.size
  block : ∀ k, k < B → k ≠ b → w'.heap[k]? = w.heap[k]?
section
variable {B b : Nat} {w w1 w2 : World}
theorem But.refl (B b : Nat) (w : World) : But B b w w := ⟨rfl, rfl, rfl, Nat.le_refl _, fun _ _ _ => rfl⟩
theorem But.trans (h : But B b w w1) (k : But B b w1 w2) : But B b w w2 :=
  ⟨k.os.trans h.os, k.tape.trans h.tape, k.output.trans h.output, Nat.le_trans h.size k.size, fun i hi hn => (k.block i hi hn).trans (h.block i hi hn)⟩
theorem But.of_below {B' : Nat} (h : Below B' w w1) (hB : B ≤ B') : But B b w w1 := ⟨h.os, h.tape, h.output, h.size, fun k hk _ => h.block k (by omega)⟩
theorem But.below {B' : Nat} (h : But B b w w1) (hB : B' ≤ B) (hb : B' ≤ b) : Below B' w w1 := ⟨h.os, h.tape, h.output, h.size, fun k hk => h.block k (by omega) (by omega)⟩
theorem But.of_grown {row : Option Nat} (h : w.grownBy w1 row) (hB : B ≤ w.heap.size) (hr : ∀ k, row = some k → B ≤ k) : But B b w w1 :=
  ⟨h.os, h.tape, h.output, h.size, fun k hk _ => h.block k (by omega) (fun e => by have := hr k e.symm; omega)⟩
theorem But.setCell (w : World) (i : Nat) (u : Value) : But B b w (w.setCell ⟨b, i, none⟩ u) := ⟨rfl, rfl, rfl, by simp [World.setCell], fun k _ hn => Below.heap_setCell w _ u k hn⟩
theorem Box.but {g : Nat} {t : TypeId} {cs : Array Value} (h : Box w g t cs) (hb : But B b w w1) (hg : g < B) (hn : g ≠ b) : Box w1 g t cs := (hb.block g hg hn).trans h
end
theorem Tryz.infoByte : (Tryz.prog.info? 5).map (fun i => (i.zero, i.size, i.bytes)) = some (some (.int .u8 0), 1, 1) := by kernel_rfl

theorem bytes_oneCell (l : List UInt8) : ∀ u ∈ l.map byteV, u.oneCell' = true := by
  intro u hu
  obtain ⟨b, _, rfl⟩ := List.mem_map.1 hu
  rfl

set_option maxRecDepth 100000 in
set_option maxHeartbeats 1000000 in
/-- buffer.Write of bytes that lie at an address. -/
theorem bufWrite_any (B bb : Nat) (l m : List UInt8) (ad : Addr) (n c : Nat) (w : World) (hn : m.length = n) (hB : B ≤ w.heap.size) (h : BufIs w B bb l) (hc : ∀ j u, (m.map byteV)[j]? = some u → w.cell? (ad.add j) = some u) (hl : l.length + m.length ≤ 1000000) :
    Calls Tryz.prog 124 #[.pointer (some ⟨bb, 0, none⟩), .slice (some ad) n c] w fun e w' => e = .returned (.tuple #[.int .i64 n, .nilIface]) ∧ BufIs w' B bb (l ++ m) ∧ But B bb w w' := by
  subst hn
  obtain ⟨v, hbox, hown⟩ := h
  have hcell := hbox.cell 0
  simp at hcell
  have hfree := hbox.free 0
  have hlt := hbox.lt
  obtain ⟨i0, hi, hz0, hz1, hz2⟩ := info_parts Tryz.infoByte
  have HC := Lib.hid hc
  have HB := Lib.hid hbox
  have HO := Lib.hid hown
  have h1 : l.length + m.length ≤ maxLen := by unfold maxLen; omega
  have h2 : (l.length + m.length) * 1 ≤ 140737488355328 := by omega
  have H1 := Lib.hid h1
  have H2 := Lib.hid h2
  clear hc hbox hown h1 h2 hl
  go_enter Tryz.func124, Tryz.ntmps124
  go_wp2_with (at_builtin; refine wpList_append_own _ rfl _ _ 23 rfl B 5 i0 (.int .u8 0) 1 1 Tryz.underlying23 hi hz0 hz1 hz2 rfl (by decide) v l.length (l.map byteV) rfl HO.out ad m.length c (m.map byteV) rfl (by simp) HC.out (bytes_oneCell m) H1.out H2.out hB ?_; intro v' w1 hown1 hgrow1 _; obtain ⟨A', c', hv'⟩ := own_form hown1; rw [hv'] at hown1 ⊢; clear hv'; have hbx := HB.out.grown hgrow1 (own_apart' HO.out HB.out (by decide)); have hc1 := hbx.cell 0; simp at hc1; have hf1 := hbx.free 0; have HX := Lib.hid hbx; have HG := Lib.hid hgrow1; have HO1 := Lib.hid hown1; clear hbx hgrow1 hown1)
  go_ret2
  refine ⟨rfl, ⟨.slice A' (l.length + m.length) c', ?_, ?_⟩, ?_⟩
  · exact HX.out.stored 0 _
  · have h := own_stored HO1.out HX.out (by decide) 0 (.slice A' (l.length + m.length) c')
    rw [List.map_append, List.length_append]
    exact h
  · exact (But.of_grown HG.out hB (fun k hk => (HO.out.lt k hk).1)).trans (But.setCell w1 0 _)
theorem BufIs.lt {w : World} {B bb : Nat} {l : List UInt8} (h : BufIs w B bb l) : bb < w.heap.size := by obtain ⟨v, h, _⟩ := h; exact h.lt
theorem BufIs.alloc {w : World} {B bb : Nat} {l : List UInt8} (h : BufIs w B bb l) (o : Obj) : BufIs (w.alloc o) B bb l := by
  obtain ⟨v, h1, h2⟩ := h
  exact ⟨v, h1.alloc o, h2.alloc o⟩
theorem BufIs.drew {w : World} {B bb : Nat} {l : List UInt8} (h : BufIs w B bb l) : BufIs w.drew B bb l := h
/-- What leaves all that was there alone leaves a buffer alone. -/
theorem BufIs.kept {w w' : World} {B bb : Nat} {l : List UInt8} (h : BufIs w B bb l) (hb : Below w.heap.size w w') : BufIs w' B bb l := by
  obtain ⟨v, h1, h2⟩ := h
  refine ⟨v, h1.below hb h1.lt, h2.kept (w' := w') (row := none) ⟨hb.os, hb.tape, hb.output, hb.size, fun k hk _ => hb.block k hk⟩ ?_⟩
  cases hv : v.ownBlock <;> simp

theorem bytesRow_at (s : ByteArray) (c : Nat) (j : Nat) (u : Value) (h : (s.data.toList.map byteV)[j]? = some u) : (bytesRow s c)[j]? = some u := by
  have hj : j < s.data.size := by
    have := (List.getElem?_eq_some_iff.1 h).1
    simpa using this
  unfold bytesRow
  rw [Array.getElem?_append_left (by simpa using hj)]
  simp only [List.getElem?_map, Array.getElem?_toList, Array.getElem?_map] at h ⊢
  exact h

/-- A buffer takes no text at once: it has no WriteString. -/
theorem noStringWriter (v : Value) (w : World) : (Instr.typeAssert (.iface 62 v) 61 111 true).run Tryz.prog w = .ok (.tuple #[.nilIface, .bool false]) w :=
  run_typeAssert_lacksB Tryz.underlying111 (by kernel_rfl) (by kernel_rfl) v 61 w
theorem bufMethod (n : Nat) (a : Addr) (w : World) : (method (n + 1) 62 (.pointer (some a)) "Write").run Tryz.prog w = .ok (124, .pointer (some a)) w := by kernel_rfl

set_option maxRecDepth 100000 in
set_option maxHeartbeats 1000000 in
theorem writeString_any (B bb : Nat) (l : List UInt8) (s : ByteArray) (w : World) (hB : B ≤ w.heap.size) (h : BufIs w B bb l) (hl : l.length + s.size ≤ 1000000) :
    Calls Tryz.prog 49 #[.iface 62 (.pointer (some ⟨bb, 0, none⟩)), .string s] w fun e w' => e = .returned (.tuple #[.int .i64 s.size, .nilIface]) ∧ BufIs w' B bb (l ++ s.data.toList) ∧ But B bb w w' := by
  have HH := Lib.hid h
  have HL := Lib.hid hl
  clear h hl
  have hna := noStringWriter (.pointer (some ⟨bb, 0, none⟩))
  have hme := fun n => bufMethod n ⟨bb, 0, none⟩
  have hcv := fun W : World => run_bytes_of_string (P := Tryz.prog) W 9 23 5 s Tryz.underlying9 Tryz.underlying23 Tryz.underlying5
  go_enter Tryz.func49, Tryz.ntmps49
  go_wp2_with fail
  refine (bufWrite_any B bb l s.data.toList ⟨w.heap.size, 0, none⟩ s.size _ _ (by simp) (by simp; omega) (HH.out.alloc _).drew (fun j u hu => ?_) (by have := HL.out; simpa using this)).mono ?_
  · rw [Lib.add_plain, Nat.zero_add]
    show (w.alloc _).cell? _ = _
    rw [World.cell?_alloc_mark]
    exact bytesRow_at s _ j u hu
  · rintro e w' ⟨rfl, hbuf, hbel⟩
    have HB := Lib.hid hbuf
    have HE := Lib.hid hbel
    clear hbuf hbel
    go_wp2
    go_ret2
    exact ⟨rfl, HB.out, (But.of_below ((Below.refl B w).alloc hB _).drew (Nat.le_refl _)).trans HE.out⟩
end Go.Proofs.YtlimibjmccbdlaaGreatDoor
