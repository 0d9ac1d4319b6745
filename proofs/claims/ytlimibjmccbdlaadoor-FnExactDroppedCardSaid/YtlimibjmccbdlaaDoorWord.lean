/-
  What the statements' texts share: a word, a slice that came in, the string of a row of bytes, the size of the row's first world.
-/
import Derived.Test.YtlimibjmccbdlaaDoorPage
import Derived.Test.YtlimibjmccbdlaaDoorRows
import Derived.HandedShaped
import Derived.WalkKit
import Derived.ProofKit
import Derived.OpenShut
import Derived.ChangeOld
import Derived.Below
import Derived.Lib.SmallJoins
namespace Go.Proofs.YtlimibjmccbdlaaDoor
open Go.ChangeShapes Go.WideShapes Go.ChangeAt Go.RowKit

/-- The n-th word. -/
def wordL (n : Nat) : List UInt8 := [109, (97 + n % 5).toUInt8, (97 + n / 5 % 5).toUInt8]
def wordB (n : Nat) : ByteArray := ⟨(wordL n).toArray⟩
theorem wordB_size (n : Nat) : (wordB n).size = 3 := rfl
theorem wordB_last (n : Nat) (h : (wordB n).size - 1 < (wordB n).size) : ((((wordB n)[(wordB n).size - 1]'h).toNat : Int) != 125) = true := by
  have e : (wordB n)[(wordB n).size - 1]'h = (97 + n / 5 % 5).toUInt8 := rfl
  rw [e]
  have : (97 + n / 5 % 5).toUInt8.toNat = 97 + n / 5 % 5 := by
    rw [UInt8.toNat_ofNat']
    omega
  rw [this]
  simp
  omega
set_option maxRecDepth 100000 in
theorem word_any (n : Nat) (w : World) (hn : n ≤ 255) :
    Calls Tryd.prog 7 #[.int .u8 n] w fun e w' => e = .returned (.string (wordB n)) ∧ Below w.heap.size w w' := by
  have hx : ((97 + n % 5).toUInt8.toNat : Int) = 97 + (n : Int) % 5 := by
    rw [UInt8.toNat_ofNat']
    omega
  have hy : ((97 + n / 5 % 5).toUInt8.toNat : Int) = 97 + (n : Int) / 5 % 5 := by
    rw [UInt8.toNat_ofNat']
    omega
  have hcv : (convert 27 9 (.slice (some ⟨w.heap.size, 0, none⟩) 3 3)).run Tryd.prog (w.alloc (.cells #[.int .u8 109, .int .u8 (97 + (n : Int) % 5), .int .u8 (97 + (n : Int) / 5 % 5)] 5)) = .ok (.string (wordB n)) (w.alloc (.cells #[.int .u8 109, .int .u8 (97 + (n : Int) % 5), .int .u8 (97 + (n : Int) / 5 % 5)] 5)) := by
    refine run_convert_bytes_back (P := Tryd.prog) _ 27 9 5 ⟨w.heap.size, 0, none⟩ 3 (wordL n) Tryd.underlying27 Tryd.underlying5 Tryd.underlying9 (fun j hj => ?_)
    rw [Lib.add_plain, Nat.zero_add, World.cell?_alloc_mark]
    match j, hj with
    | 0, _ => rfl
    | 1, _ => show _ = some (Value.int .u8 ((97 + n % 5).toUInt8.toNat : Int)); rw [hx]; rfl
    | 2, _ => show _ = some (Value.int .u8 ((97 + n / 5 % 5).toUInt8.toNat : Int)); rw [hy]; rfl
  clear hx hy
  go_enter Tryd.func7, Tryd.ntmps7
  go_wp2
  go_ret
  exact ⟨rfl, (Below.refl _ _).alloc (Nat.le_refl _) _⟩
theorem size_of_shaped {w : World} (h : w.ShapedOpen Tryd.prog) : 4 ≤ w.heap.size := by
  have e : (((begin Tryd.prog (fun _ _ => 0) default).world.heap[3]?).bind Obj.row?).isSome = true := by kernel_rfl
  obtain ⟨⟨zero, t⟩, hz⟩ := Option.isSome_iff_exists.1 e
  obtain ⟨cs, hcs, _⟩ := h.1 3 zero t (by decide +kernel) hz
  have := (Array.getElem?_eq_some_iff.1 hcs).1
  omega
theorem wf_u8 {a : Int} (h : (Lit.int .u8 a).wf = true) : ∃ n : Nat, a = n ∧ n ≤ 255 := by
  simp [Lit.wf, IntKind.min, IntKind.max, IntKind.bits, IntKind.signed] at h
  exact ⟨a.toNat, by omega, by omega⟩

/-- WHAT THE WALK IS TOLD OF A SLICE OF INTEGERS THAT CAME IN. -/
def IsRow (k : IntKind) (w : World) (a : Option Addr) (len cap : Nat) (zs : List Int) : Prop :=
  (a = none ∧ len = 0 ∧ cap = 0 ∧ zs = []) ∨
  ∃ x, a = some x ∧ len ≤ cap ∧ cap ≤ maxLen ∧ zs.length = cap ∧ (∀ i, i < zs.length → w.cell? (x.add i) = some (.int k (zs.getD i 0))) ∧ ∀ n ∈ zs, (Lit.int k n).wf = true

theorem add_block (x : Addr) (k : Nat) : (x.add k).block = x.block := by
  unfold Addr.add
  split <;> rfl
theorem row_lt {w : World} {a : Option Addr} {len cap : Nat} {zs : List Int} (h : IsRow .u8 w a len cap zs) (hn : 0 < len) : ∀ x, a = some x → x.block < w.heap.size := by
  intro x hx
  rcases h with ⟨rfl, _⟩ | ⟨y, rfl, h1, _, h2, h3, _⟩
  · cases hx
  · injection hx with hx
    subst hx
    have h := h3 0 (by omega)
    rcases Nat.lt_or_ge y.block w.heap.size with hl | hl
    · exact hl
    · rw [World.cell?, show (y.add 0).block = y.block from add_block y 0, Array.getElem?_eq_none hl] at h
      cases h
/-- The string of a row of bytes of the call's own. -/
theorem convOwn (A : Option Addr) (n c : Nat) (l : List UInt8) (w : World) (B : Nat) (hn : l.length = n) (h : w.ownsRow B 5 1 (.slice A n c) n (l.map byteV)) :
    (convert 27 9 (.slice A n c)).run Tryd.prog w = .ok (.string ⟨l.toArray⟩) w := by
  rcases _root_.Go.Joins.ownsRow_forms h with ⟨hv, h0⟩ | ⟨g, cap, hv⟩
  · have hl : l = [] := List.length_eq_zero_iff.1 (hn.trans h0)
    subst hl
    rw [hv]
    exact convNil w
  · have ha : A = some ⟨g, 0, none⟩ := by injection hv
    have hc : c = cap := by injection hv
    subst ha
    subst hn
    clear hv hc
    exact run_convert_bytes_back (P := Tryd.prog) w 27 9 5 ⟨g, 0, none⟩ c l Tryd.underlying27 Tryd.underlying5 Tryd.underlying9 (fun j hj => by
      rw [h.cells (g := g) rfl j (byteV l[j]) (by simp [List.getElem?_eq_getElem hj])]
      rfl)

theorem Tryd.infoInt : (Tryd.prog.info? 3).map (fun i => (i.zero, i.size, i.bytes)) = some (some (.int .i64 0), 1, 8) := by kernel_rfl

end Go.Proofs.YtlimibjmccbdlaaDoor
