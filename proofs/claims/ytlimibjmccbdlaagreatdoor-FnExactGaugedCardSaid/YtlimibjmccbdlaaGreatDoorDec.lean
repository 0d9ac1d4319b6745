/-
  strconv.FormatUint at base 10 gives the decimal numeral: below 100 always, above where the table of powers of ten holds what its text says.
-/
import Derived.Test.YtlimibjmccbdlaaGreatDoorIdent
import Derived.Test.YtlimibjmccbdlaaGreatDoorShelf
import Derived.Lib.ItoaMem
import Derived.Lib.ItoaNum
import Derived.Sort.Grow
import Derived.Laws.IdiomStrings
namespace Go.Proofs.YtlimibjmccbdlaaGreatDoor
open Go.RowKit Go.Sort

theorem below_grow (w : World) (k : Nat) (os : Array Obj) : Below w.heap.size w (grow (w.drewN k) os) :=
  ⟨rfl, rfl, rfl, by simp, fun i hi => heap_grow_old (w.drewN k) os hi⟩

/-- A number that FormatUint can be asked for: below 100, or the table is as its text says. -/
def Spells (w : World) (v : Nat) : Prop := v < 100 ∨ (v < 18446744073709551616 ∧ Lib.TabIs Tryz.prog w "internal/strconv.uint64pow10" .u64 Lib.pow10Tab)

theorem tabIs_below {P : Program} {w w' : World} {B : Nat} {name : String} {k : IntKind} {zs : List Int} (h : Lib.TabIs P w name k zs) (hb : Below B w w') (hB : ∀ g, P.globalNamed name = some g → g < B) : Lib.TabIs P w' name k zs := by
  unfold Lib.TabIs World.var? at *
  cases hg : P.globalNamed name with
  | none => simp [hg] at h
  | some g =>
    simp only [hg, Option.bind_some] at h ⊢
    rw [hb.block g (hB g hg)]
    exact h
theorem Spells.below {w w' : World} {v B : Nat} (h : Spells w v) (hb : Below B w w') (hB : 4 ≤ B) : Spells w' v := by
  rcases h with h | ⟨h, ht⟩
  · exact .inl h
  · refine .inr ⟨h, tabIs_below ht hb (fun g hg => ?_)⟩
    have e : Tryz.prog.globalNamed "internal/strconv.uint64pow10" = some 0 := by kernel_rfl
    rw [e] at hg
    cases hg
    omega

theorem zeros24_holds (w : World) (T : TypeId) (nd : Nat) (hs : nd ≤ 24) : Holds (fun (b : UInt8) => Value.int .u8 (b.toNat : Int)) (w.alloc (.cells Lib.zeros24 T)) w.heap.size 0 (Array.replicate nd (0 : UInt8)) := fun j hj => by
  have hj' : j < nd := by simpa using hj
  refine ⟨?_, World.frozen?_alloc_new _ _ _ _⟩
  rw [World.cell?_alloc_new, Nat.zero_add, Lib.zeros24_at _ (by omega), getElem!_pos _ j hj]
  simp
theorem fin_zero (w : World) (o : Obj) (dk : Array UInt8) (k : Nat) : ∃ os, (putRow (fun (b : UInt8) => Value.int .u8 (b.toNat : Int)) (w.alloc o) w.heap.size 0 dk).drewN k = grow (w.drewN k) os := by
  rw [alloc_eq_grow]
  obtain ⟨os', _, e⟩ := putRow_grow_new (fun (b : UInt8) => Value.int .u8 (b.toNat : Int)) w #[o] w.heap.size 0 dk (Nat.le_refl _)
  exact ⟨os', by rw [e]; rfl⟩

set_option maxRecDepth 100000 in
set_option maxHeartbeats 1000000 in
theorem formatUint_in (u : Nat) (w : World) (hu : Spells w u) :
    Calls Tryz.prog 18 #[.int .u64 u, .int .i64 10] w fun e w' => e = .returned (.string ⟨(Lib.decDigits u).toArray⟩) ∧ Below w.heap.size w w' := by
  by_cases hs : u < 100
  · have HC := Lib.hid (fun W : World => Tryz.internal_strconv_small u hs W)
    have hsz : (u : Int) < 100 := by omega
    clear hu
    go_enter Tryz.func18, Tryz.ntmps18
    go_wp2_with fail
    refine (HC.out _).mono ?_
    rintro e w' ⟨rfl, rfl⟩
    go_wp2
    go_ret
    exact ⟨rfl, Below.refl _ _⟩
  · obtain ⟨hu64, htab⟩ : u < 18446744073709551616 ∧ Lib.TabIs Tryz.prog w "internal/strconv.uint64pow10" .u64 Lib.pow10Tab := by
      rcases hu with h | h
      · exact absurd h hs
      · exact h
    clear hu
    have hu1 : 1 ≤ u := by omega
    have hsz : (100 : Int) ≤ (u : Int) := by omega
    have hnd20 : Lib.nDigits u ≤ 20 := by have := Lib.numDigits_eq u hu1 hu64; split at this <;> omega
    have hb3 : Lib.nDigits u ≤ 24 := by omega
    have hal : Tryz.prog.arrayLen 67 = 24 := by kernel_rfl
    have hsl1 : ∀ W, (Instr.sliceAt 67 (.pointer (some ⟨w.heap.size, 0, none⟩)) none (some (.int .i64 (Lib.nDigits u : Int))) none).run Tryz.prog W = .ok (.slice (some ⟨w.heap.size, 0, none⟩) (Lib.nDigits u) 24) W := fun W => by
      rw [run_sliceAt_array_h W 67 ⟨w.heap.size, 0, none⟩ (by kernel_rfl) .i64 (Lib.nDigits u : Int) (by omega) (by rw [hal]; omega)]
      go_simp
    have hH0 := zeros24_holds w 67 (Lib.nDigits u) (by omega)
    have hfmt := Tryz.internal_strconv_formatBase10 w.heap.size 0 24 u (Array.replicate (Lib.nDigits u) 0) (w.alloc (.cells Lib.zeros24 67)) hH0 (by rw [Array.size_replicate]; exact Lib.lt_pow_nDigits u) hu64 (by rw [Array.size_replicate]; omega)
    rw [Array.size_replicate] at hfmt
    have HH0 := Lib.hid hH0
    have HF := Lib.hid hfmt
    have HN := Lib.hid (Tryz.internal_strconv_numDigits u hu1 hu64 _ (Lib.tabIs_alloc htab (.cells Lib.zeros24 67)))
    clear hH0 hal htab hfmt hs
    go_enter Tryz.func18, Tryz.ntmps18
    go_wp2_with fail
    refine (HN.out).mono ?_
    rintro e w' ⟨rfl, rfl⟩
    go_wp2_with fail
    refine (HF.out).mono ?_
    rintro e w' ⟨rfl, k, v', dk, rfl, hF⟩
    have hcv : (convert 23 9 (.slice (some ⟨w.heap.size, 0, none⟩) (Lib.nDigits u) 24)).run Tryz.prog ((putRow (fun (b : UInt8) => Value.int .u8 (b.toNat : Int)) (w.alloc (.cells Lib.zeros24 67)) w.heap.size 0 dk).drewN k) = .ok (.string ⟨(Lib.decDigits u).toArray⟩) ((putRow (fun (b : UInt8) => Value.int .u8 (b.toNat : Int)) (w.alloc (.cells Lib.zeros24 67)) w.heap.size 0 dk).drewN k) := by
      have h := run_convert_bytes_back (P := Tryz.prog) ((putRow (fun (b : UInt8) => Value.int .u8 (b.toNat : Int)) (w.alloc (.cells Lib.zeros24 67)) w.heap.size 0 dk).drewN k) 23 9 5 ⟨w.heap.size, 0, none⟩ 24 (Lib.decDigits u) Tryz.underlying23 Tryz.underlying5 Tryz.underlying9 (fun j hj => by
        rw [Lib.row_is_numeral hF j hj, Lib.add_plain, World.cell?_drewN]
        exact cell?_putRow (fun (b : UInt8) => Value.int .u8 (b.toNat : Int)) _ w.heap.size 0 _ dk HH0.out (by rw [hF.size, Array.size_replicate]) j (by rw [hF.size]; rw [Lib.decDigits_length] at hj; exact hj))
      rw [Lib.decDigits_length] at h
      exact h
    have hFF := Lib.hid hF
    clear hF
    go_wp2
    go_ret
    obtain ⟨os, eo⟩ := fin_zero w (.cells Lib.zeros24 67) dk k
    refine ⟨rfl, ?_⟩
    rw [eo]
    exact below_grow w k os

theorem formatUint_any (u : Nat) (w : World) (hu : Spells w u) :
    Calls Tryz.prog 9 #[.int .u64 u, .int .i64 10] w fun e w' => e = .returned (.string ⟨(Lib.decDigits u).toArray⟩) ∧ Below w.heap.size w w' := by
  have HC := Lib.hid (formatUint_in u w hu)
  clear hu
  go_enter Tryz.func9, Tryz.ntmps9
  go_wp2_with fail
  refine (HC.out).mono ?_
  rintro e w' ⟨rfl, hb⟩
  go_wp2
  go_ret
  exact ⟨rfl, hb⟩
end Go.Proofs.YtlimibjmccbdlaaGreatDoor
