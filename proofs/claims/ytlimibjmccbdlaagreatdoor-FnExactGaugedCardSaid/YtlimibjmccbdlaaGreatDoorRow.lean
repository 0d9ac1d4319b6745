/-
  What the statements' texts share: a slice that came in, the string of a row of bytes, the size of the row's first world.
-/
import Derived.Test.YtlimibjmccbdlaaGreatDoorPage
import Derived.Test.YtlimibjmccbdlaaGreatDoorRows
import Derived.HandedShaped
import Derived.WalkKit
import Derived.ProofKit
import Derived.OpenShut
import Derived.ChangeOld
import Derived.Below
import Derived.Lib.SmallJoins
namespace Go.Proofs.YtlimibjmccbdlaaGreatDoor
open Go.ChangeShapes Go.WideShapes Go.ChangeAt Go.RowKit

theorem size_of_shaped {w : World} (h : w.ShapedOpen Tryz.prog) : 4 ≤ w.heap.size := by
  have e : (((begin Tryz.prog (fun _ _ => 0) default).world.heap[3]?).bind Obj.row?).isSome = true := by kernel_rfl
  obtain ⟨⟨zero, t⟩, hz⟩ := Option.isSome_iff_exists.1 e
  obtain ⟨cs, hcs, _⟩ := h.1 3 zero t (by decide +kernel) hz
  have := (Array.getElem?_eq_some_iff.1 hcs).1
  omega
theorem wf_u8 {a : Int} (h : (Lit.int .u8 a).wf = true) : ∃ n : Nat, a = n ∧ n ≤ 255 := by
  simp [Lit.wf, IntKind.min, IntKind.max, IntKind.bits, IntKind.signed] at h
  exact ⟨a.toNat, by omega, by omega⟩

/-- WHAT THE WALK IS TOLD OF A SLICE OF INTEGERS THAT CAME IN. -/
def IsRow (k : IntKind) (w : World) (a : Option Addr) (len cap : Nat) (zs : List Int) : Prop :=
  (a = none ∧ len = 0 ∧ cap = 0 ∧ zs = []) ∨
  ∃ x, a = some x ∧ len ≤ cap ∧ cap ≤ maxLen ∧ zs.length = cap ∧ (∀ i, i < zs.length → w.cell? (x.add i) = some (.int k (zs.getD i 0))) ∧ ∀ n ∈ zs, (Lit.int k n).wf = true

theorem add_block (x : Addr) (k : Nat) : (x.add k).block = x.block := by
  unfold Addr.add
  split <;> rfl
theorem row_lt {w : World} {a : Option Addr} {len cap : Nat} {zs : List Int} (h : IsRow .u8 w a len cap zs) (hn : 0 < len) : ∀ x, a = some x → x.block < w.heap.size := by
  intro x hx
  rcases h with ⟨rfl, _⟩ | ⟨y, rfl, h1, _, h2, h3, _⟩
  · cases hx
  · injection hx with hx
    subst hx
    have h := h3 0 (by omega)
    rcases Nat.lt_or_ge y.block w.heap.size with hl | hl
    · exact hl
    · rw [World.cell?, show (y.add 0).block = y.block from add_block y 0, Array.getElem?_eq_none hl] at h
      cases h
/-- The string of a row of bytes of the call's own. -/
theorem convOwn (A : Option Addr) (n c : Nat) (l : List UInt8) (w : World) (B : Nat) (hn : l.length = n) (h : w.ownsRow B 5 1 (.slice A n c) n (l.map byteV)) :
    (convert 23 9 (.slice A n c)).run Tryz.prog w = .ok (.string ⟨l.toArray⟩) w := by
  rcases _root_.Go.Joins.ownsRow_forms h with ⟨hv, h0⟩ | ⟨g, cap, hv⟩
  · have hl : l = [] := List.length_eq_zero_iff.1 (hn.trans h0)
    subst hl
    rw [hv]
    exact convNil w
  · have ha : A = some ⟨g, 0, none⟩ := by injection hv
    have hc : c = cap := by injection hv
    subst ha
    subst hn
    clear hv hc
    exact run_convert_bytes_back (P := Tryz.prog) w 23 9 5 ⟨g, 0, none⟩ c l Tryz.underlying23 Tryz.underlying5 Tryz.underlying9 (fun j hj => by
      rw [h.cells (g := g) rfl j (byteV l[j]) (by simp [List.getElem?_eq_getElem hj])]
      rfl)

theorem Tryz.infoInt : (Tryz.prog.info? 3).map (fun i => (i.zero, i.size, i.bytes)) = some (some (.int .i64 0), 1, 8) := by kernel_rfl

end Go.Proofs.YtlimibjmccbdlaaGreatDoor
