/-
  The plain law of pages: what a set's counters come to, in order of names, is what the sum of each name's numbers spells.
-/
import Derived.Test.YtlimibjmccbdlaaDoorAdds
namespace Go.Proofs.YtlimibjmccbdlaaDoor
open Go.RowKit

/-! ### strictly rising lists -/
theorem rising_unique {l l' : List (List UInt8)} (h : l.Pairwise (· < ·)) (h' : l'.Pairwise (· < ·)) (hm : ∀ x, x ∈ l ↔ x ∈ l') : l = l' := by
  have nd : ∀ {l : List (List UInt8)}, l.Pairwise (· < ·) → l.Nodup := fun h => h.imp (fun hlt e => by subst e; exact List.lt_irrefl _ hlt)
  refine List.Perm.eq_of_pairwise (le := fun a b => a < b) (fun a b _ _ h1 h2 => absurd (List.lt_trans h1 h2) (List.lt_irrefl _)) h h' ((List.perm_ext_iff_of_nodup (nd h) (nd h')).2 hm)

theorem compact_mem {zs : List (List UInt8)} (x : List UInt8) : x ∈ Lib.compact zs ↔ x ∈ zs := by
  unfold Lib.compact Lib.compactUpTo
  constructor
  · intro h
    obtain ⟨j, hj, rfl⟩ := List.mem_map.1 h
    have hjl : j < zs.length := by simpa using (List.mem_filter.1 hj).1
    rw [getElem!_pos _ j (by simpa using hjl)]
    simp
  · intro h
    obtain ⟨j, hj, rfl⟩ := List.mem_iff_getElem.1 h
    clear h
    induction j with
    | zero => exact List.mem_map.2 ⟨0, List.mem_filter.2 ⟨by simpa using hj, by simp [Lib.keeps]⟩, by rw [getElem!_pos _ 0 (by simpa using hj)]; simp⟩
    | succ j ih =>
      by_cases he : zs[j + 1] = zs[j]
      · rw [he]
        exact ih (by omega)
      · refine List.mem_map.2 ⟨j + 1, List.mem_filter.2 ⟨by simpa using hj, ?_⟩, by rw [getElem!_pos _ (j + 1) (by simpa using hj)]; simp⟩
        unfold Lib.keeps
        refine decide_eq_true (.inr ?_)
        rw [getElem!_pos _ (j + 1) (by simpa using hj), getElem!_pos _ (j + 1 - 1) (by simp; omega)]
        simpa using he
theorem compact_rising {zs : List (List UInt8)} (h : zs.Pairwise (· ≤ ·)) : (Lib.compact zs).Pairwise (· < ·) := by
  unfold Lib.compact Lib.compactUpTo
  rw [List.pairwise_map]
  have hr : (List.range zs.length).Pairwise (· < ·) := List.pairwise_lt_range
  refine ((hr.filter _).imp_of_mem ?_)
  intro i j hi hj hij
  have hil : i < zs.length := by simpa using (List.mem_filter.1 hi).1
  have hjl : j < zs.length := by simpa using (List.mem_filter.1 hj).1
  have hk := (List.mem_filter.1 hj).2
  unfold Lib.keeps at hk
  rcases of_decide_eq_true hk with h0 | hne
  · omega
  · rw [getElem!_pos _ j (by simpa using hjl), getElem!_pos _ (j - 1) (by simp; omega)] at hne
    rw [getElem!_pos _ i (by simpa using hil), getElem!_pos _ j (by simpa using hjl)]
    simp at hne ⊢
    have hget := List.pairwise_iff_getElem.1 h
    have h1 : zs[i] ≤ zs[j - 1] := by
      by_cases e : i = j - 1
      · subst e; exact List.le_refl _
      · exact hget i (j - 1) hil (by omega) (by omega)
    have h2 : zs[j - 1] ≤ zs[j] := hget (j - 1) j (by omega) hjl (by omega)
    rcases List.le_iff_lt_or_eq.1 h2 with h3 | h3
    · exact List.lt_of_le_of_lt h1 h3
    · exact absurd h3.symm hne

theorem each_rising (names : List ByteArray) : (eachOf names).Pairwise (· < ·) := by
  refine compact_rising ?_
  have tr : ∀ a b c : List UInt8, decide (a ≤ b) = true → decide (b ≤ c) = true → decide (a ≤ c) = true := fun a b c h1 h2 => by simp only [decide_eq_true_eq] at *; exact List.le_trans h1 h2
  have to : ∀ a b : List UInt8, (decide (a ≤ b) || decide (b ≤ a)) = true := fun a b => by simp only [Bool.or_eq_true, decide_eq_true_eq]; exact List.le_total a b
  exact (List.pairwise_mergeSort tr to _).imp (fun h => of_decide_eq_true h)
theorem each_mem (names : List ByteArray) (x : List UInt8) : x ∈ eachOf names ↔ x ∈ names.map (·.data.toList) := by
  unfold eachOf
  rw [compact_mem]
  exact (List.mergeSort_perm _ _).mem_iff

/-! ### the tally -/
open Classical in
/-- All numbers that stand at a name. -/
noncomputable def sumFor : List ByteArray → List Int → ByteArray → Int
  | s :: ss, n :: ns, x => (if s = x then n else 0) + sumFor ss ns x
  | _, _, _ => 0
theorem sumFor_range : ∀ (ss : List ByteArray) (ns : List Int) (x : ByteArray), (∀ z ∈ ns, 0 ≤ z ∧ z ≤ 255) → 0 ≤ sumFor ss ns x ∧ sumFor ss ns x ≤ 255 * ss.length
  | [], ns, x, _ => by cases ns <;> simp [sumFor]
  | s :: ss, [], x, _ => by simp [sumFor]; omega
  | s :: ss, n :: ns, x, h => by
    have ih := sumFor_range ss ns x (fun z hz => h z (List.mem_cons_of_mem _ hz))
    have hn := h n (List.mem_cons_self ..)
    unfold sumFor
    simp only [List.length_cons]
    split <;> omega
theorem names_nodup (t : Tally) (s : ByteArray) (n : Int) (h : (t.map (·.1)).Nodup) : ((putT t s n).map (·.1)).Nodup := by
  unfold putT
  split
  · rename_i hin
    have : (t.map (fun p => if p.1 = s then (p.1, addU p.2 n) else p)).map (·.1) = t.map (·.1) := by
      rw [List.map_map]
      refine List.map_congr_left (fun p _ => ?_)
      simp only [Function.comp]
      split <;> rfl
    rw [this]
    exact h
  · rename_i hin
    rw [List.map_append, List.nodup_append]
    refine ⟨h, by simp, fun a ha b hb => ?_⟩
    simp at hb
    subst hb
    intro e
    subst e
    exact hin ha
theorem tally_nodup : ∀ (ss : List ByteArray) (ns : List Int) (t : Tally), (t.map (·.1)).Nodup → ((tally ss ns t).map (·.1)).Nodup
  | [], ns, t, h => by cases ns <;> exact h
  | s :: ss, [], t, h => h
  | s :: ss, n :: ns, t, h => tally_nodup ss ns _ (names_nodup t s n h)
theorem putT_names (t : Tally) (s : ByteArray) (n : Int) (x : ByteArray) : x ∈ (putT t s n).map (·.1) ↔ x ∈ t.map (·.1) ∨ x = s := by
  unfold putT
  split
  · rename_i hin
    have : (t.map (fun p => if p.1 = s then (p.1, addU p.2 n) else p)).map (·.1) = t.map (·.1) := by
      rw [List.map_map]
      refine List.map_congr_left (fun p _ => ?_)
      simp only [Function.comp]
      split <;> rfl
    rw [this]
    constructor
    · exact .inl
    · rintro (h | rfl)
      · exact h
      · exact hin
  · rw [List.map_append, List.mem_append]
    simp
theorem tally_names : ∀ (ss : List ByteArray) (ns : List Int) (t : Tally) (x : ByteArray), ss.length = ns.length → (x ∈ (tally ss ns t).map (·.1) ↔ x ∈ t.map (·.1) ∨ x ∈ ss)
  | [], ns, t, x, _ => by cases ns <;> simp [tally]
  | s :: ss, [], t, x, h => by simp at h
  | s :: ss, n :: ns, t, x, h => by
    unfold tally
    rw [tally_names ss ns _ x (by simpa using h), putT_names, List.mem_cons]
    constructor
    · rintro ((h | h) | h)
      · exact .inl h
      · exact .inr (.inl h)
      · exact .inr (.inr h)
    · rintro (h | h | h)
      · exact .inl (.inl h)
      · exact .inl (.inr h)
      · exact .inr h

theorem wrap_u64 (x : Int) : IntKind.u64.wrap x = x % 18446744073709551616 := by
  unfold IntKind.wrap
  simp [IntKind.signed, IntKind.bits]
/-- Behind all numbers a name's entry holds what it held and the name's sum. -/
theorem tally_val : ∀ (ss : List ByteArray) (ns : List Int) (t : Tally) (p : ByteArray × Int), (t.map (·.1)).Nodup → p ∈ tally ss ns t →
    (∃ v, (p.1, v) ∈ t ∧ p.2 % 18446744073709551616 = (v + sumFor ss ns p.1) % 18446744073709551616) ∨ (p.1 ∉ t.map (·.1) ∧ p.2 % 18446744073709551616 = sumFor ss ns p.1 % 18446744073709551616)
  | [], ns, t, p, _, h => by
    have h' : p ∈ t := by cases ns <;> exact h
    refine .inl ⟨p.2, h', ?_⟩
    have : sumFor [] ns p.1 = 0 := by cases ns <;> rfl
    rw [this]
    simp
  | s :: ss, [], t, p, _, h => .inl ⟨p.2, h, by simp [sumFor]⟩
  | s :: ss, n :: ns, t, p, hnd, h => by
    have ih := tally_val ss ns (putT t s n) p (names_nodup t s n hnd) h
    unfold sumFor
    rcases ih with ⟨v, hv, he⟩ | ⟨hno, he⟩
    · unfold putT at hv
      split at hv
      · rename_i hin
        obtain ⟨q, hq, hqe⟩ := List.mem_map.1 hv
        by_cases hs : q.1 = s
        · rw [if_pos hs] at hqe
          injection hqe with e1 e2
          refine .inl ⟨q.2, by rw [← e1]; exact hq, ?_⟩
          rw [if_pos (by rw [← e1]; exact hs.symm), he, ← e2]
          unfold addU
          rw [wrap_u64, wrap_u64]
          omega
        · rw [if_neg hs] at hqe
          refine .inl ⟨v, by rw [← hqe]; exact hq, ?_⟩
          have hps : ¬ s = p.1 := fun e => hs (by rw [hqe]; exact e.symm)
          rw [if_neg hps, he]
          omega
      · rename_i hin
        rcases List.mem_append.1 hv with hv | hv
        · have hps : ¬ s = p.1 := fun e => hin (by rw [e]; exact List.mem_map.2 ⟨_, hv, rfl⟩)
          refine .inl ⟨v, hv, ?_⟩
          rw [if_neg hps, he]
          omega
        · have hv' := List.mem_singleton.1 hv
          injection hv' with e1 e2
          refine .inr ⟨by rw [e1]; exact hin, ?_⟩
          rw [if_pos e1.symm, he, e2]
          unfold addU
          rw [wrap_u64, wrap_u64]
          omega
    · rw [putT_names] at hno
      have hps : ¬ s = p.1 := fun e => hno (.inr e.symm)
      refine .inr ⟨fun hx => hno (.inl hx), ?_⟩
      rw [if_neg hps, he]
      omega
/-- The entries stay numbers of 64 bits. -/
theorem tally_range : ∀ (ss : List ByteArray) (ns : List Int) (t : Tally), (∀ p ∈ t, 0 ≤ p.2 ∧ p.2 < 18446744073709551616) → ∀ p ∈ tally ss ns t, 0 ≤ p.2 ∧ p.2 < 18446744073709551616
  | [], ns, t, h, p, hp => by
    have h' : p ∈ t := by cases ns <;> exact hp
    exact h p h'
  | s :: ss, [], t, h, p, hp => h p hp
  | s :: ss, n :: ns, t, h, p, hp => by
    refine tally_range ss ns (putT t s n) ?_ p hp
    have hadd : ∀ v, 0 ≤ addU v n ∧ addU v n < 18446744073709551616 := fun v => by
      unfold addU
      rw [wrap_u64]
      omega
    intro q hq
    unfold putT at hq
    split at hq
    · obtain ⟨r, hr, rfl⟩ := List.mem_map.1 hq
      split
      · exact hadd _
      · exact h r hr
    · rcases List.mem_append.1 hq with hq | hq
      · exact h q hq
      · rw [List.mem_singleton.1 hq]
        exact hadd 0
theorem tally_sum (ss : List ByteArray) (ns : List Int) (hl : ss.length ≤ 1000) (hr : ∀ z ∈ ns, 0 ≤ z ∧ z ≤ 255) (p : ByteArray × Int) (hp : p ∈ tally ss ns []) : p.2 = sumFor ss ns p.1 := by
  have h1 := tally_range ss ns [] (by simp) p hp
  have h2 := sumFor_range ss ns p.1 hr
  rcases tally_val ss ns [] p (by simp) hp with ⟨v, hv, _⟩ | ⟨_, he⟩
  · cases hv
  · omega

/-- The line that a name's sum spells. -/
noncomputable def lineS (names : List ByteArray) (adds : List Int) (x : List UInt8) : List UInt8 := x ++ 32 :: (Lib.decDigits (sumFor names adds ⟨x.toArray⟩).toNat ++ [10])

theorem page_law (names : List ByteArray) (adds : List Int) (hl : names.length = adds.length) (hl2 : names.length ≤ 1000) (hr : ∀ z ∈ adds, 0 ≤ z ∧ z ≤ 255) (l : List UInt8) (h : PageIs (tally names adds []) l) :
    l = (eachOf names).flatMap (lineS names adds) := by
  obtain ⟨st, hp, hord, rfl⟩ := h
  have hnd : (st.map (·.1)).Nodup := ((hp.map _).nodup_iff).2 (tally_nodup names adds [] (by simp))
  have hnd2 : st.Pairwise (fun a b => a.1 ≠ b.1) := List.pairwise_map.1 hnd
  have hrise : (st.map (·.1.data.toList)).Pairwise (· < ·) := by
    rw [List.pairwise_map]
    refine (hord.and hnd2).imp ?_
    rintro a b ⟨h1, h2⟩
    rw [cmpB_lt] at h1
    rcases List.le_iff_lt_or_eq.1 (List.not_lt.1 h1) with h3 | h3
    · exact h3
    · exact absurd (ba_ext h3) h2
  have hm : st.map (·.1.data.toList) = eachOf names := by
    refine rising_unique hrise (each_rising names) (fun x => ?_)
    rw [each_mem]
    have hb : ∀ s, s ∈ st.map (·.1) ↔ s ∈ names := fun s => by
      rw [(hp.map _).mem_iff, tally_names names adds [] s hl]
      simp
    constructor
    · intro hx
      obtain ⟨p, hp', rfl⟩ := List.mem_map.1 hx
      exact List.mem_map.2 ⟨p.1, (hb p.1).1 (List.mem_map.2 ⟨p, hp', rfl⟩), rfl⟩
    · intro hx
      obtain ⟨s, hs, rfl⟩ := List.mem_map.1 hx
      obtain ⟨p, hp', rfl⟩ := List.mem_map.1 ((hb s).2 hs)
      exact List.mem_map.2 ⟨p, hp', rfl⟩
  rw [← hm, List.flatMap_map, List.flatMap_def, List.flatMap_def]
  refine congrArg _ (List.map_congr_left (fun p hp' => ?_))
  have hs := tally_sum names adds hl2 hr p (hp.mem_iff.1 hp')
  unfold lineT lineS lineOf
  rw [hs]
end Go.Proofs.YtlimibjmccbdlaaDoor
