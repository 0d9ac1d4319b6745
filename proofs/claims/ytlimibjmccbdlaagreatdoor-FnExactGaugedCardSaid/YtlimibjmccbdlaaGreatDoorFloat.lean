/-
  Whole numbers as floats of 64 bits: what their words read as, that sums of them are exact, that they come back.
-/
import Derived.Laws.FloatArith
namespace Go.Proofs.YtlimibjmccbdlaaGreatDoor
open Ieee

/-- The word of a whole number. -/
def fw (n : Int) : Nat := double.nearest (n < 0) n.natAbs 0

theorem log_le {a : Nat} (h : a ≠ 0) (hb : a < 2 ^ 52) : a.log2 < 52 := (Nat.log2_lt h).2 hb
theorem cut_exact (neg : Bool) (n d : Nat) (hd : d ≤ (n * 2 ^ d).log2 + 2) : Toward.even.cut neg (n * 2 ^ d) d = n := by
  have hp : 0 < 2 ^ d := Nat.pow_pos (by decide)
  have h1 : decide (2 ^ d < 2 * 0) = false := decide_eq_false (by omega)
  have h2 : (2 ^ d == 2 * 0) = false := beq_eq_false_iff_ne.2 (by omega)
  unfold Toward.cut
  rw [Nat.min_eq_left hd, Nat.shiftLeft_eq, Nat.one_mul]
  simp only [Nat.mul_div_cancel _ hp, Nat.mul_mod_left, h1, h2, Bool.false_and, Bool.or_false, Bool.toNat_false, Nat.add_zero]
theorem cut_zero (neg : Bool) (n d : Nat) (hd : d ≤ (n * 2 ^ d).log2 + 2) : Toward.zero.cut neg (n * 2 ^ d) d = n := by
  have hp : 0 < 2 ^ d := Nat.pow_pos (by decide)
  unfold Toward.cut
  rw [Nat.min_eq_left hd, Nat.shiftLeft_eq, Nat.one_mul]
  simp only [Nat.mul_div_cancel _ hp, Bool.toNat_false, Nat.add_zero]
theorem log_shift {a k : Nat} (h : a ≠ 0) : (a * 2 ^ k).log2 = a.log2 + k := by
  have hp : 0 < 2 ^ k := Nat.pow_pos (by decide)
  have h0 : a * 2 ^ k ≠ 0 := Nat.mul_ne_zero h (by omega)
  refine (Nat.log2_eq_iff h0).2 ⟨?_, ?_⟩
  · rw [Nat.pow_add]
    exact Nat.mul_le_mul_right _ (Nat.log2_self_le h)
  · rw [show a.log2 + k + 1 = (a.log2 + 1) + k by omega, Nat.pow_add]
    exact Nat.mul_lt_mul_of_pos_right Nat.lt_log2_self hp

/-- The rung of a whole number. -/
theorem nearest_scaled (s : Bool) (a k : Nat) (h : a ≠ 0) (hb : a < 2 ^ 52) :
    double.nearest s (a * 2 ^ k) (-(k : Int)) = double.word s ((a.log2 + 1022) * 2 ^ 52 + a * 2 ^ (52 - a.log2)) := by
  have hL := log_le h hb
  have hp : 0 < 2 ^ k := Nat.pow_pos (by decide)
  have h0 : a * 2 ^ k ≠ 0 := Nat.mul_ne_zero h (by omega)
  have hlp : double.leastPlace = -1074 := by decide
  have hfb : double.fractionBits = 52 := rfl
  have hbin : double.binade = 2 ^ 52 := rfl
  have hinf : double.infRung = 2047 * 2 ^ 52 := by decide
  unfold Format.nearest
  rw [if_neg h0, log_shift h, hlp, hfb, hbin, hinf]
  have hlast : max (-(k : Int) + ((a.log2 + k : Nat) : Int) - ((52 : Nat) : Int)) (-1074) = (a.log2 : Int) - 52 := by omega
  simp only [hlast]
  have hkept : Toward.even.cut s ((a * 2 ^ k) <<< (-(k : Int) - ((a.log2 : Int) - 52)).toNat) ((a.log2 : Int) - 52 - -(k : Int)).toNat = a * 2 ^ (52 - a.log2) := by
    rw [Nat.shiftLeft_eq]
    by_cases hc : k ≤ 52 - a.log2
    · rw [show ((a.log2 : Int) - 52 - -(k : Int)).toNat = 0 by omega, show (-(k : Int) - ((a.log2 : Int) - 52)).toNat = 52 - a.log2 - k by omega]
      have e : a * 2 ^ k * 2 ^ (52 - a.log2 - k) = a * 2 ^ (52 - a.log2) * 2 ^ 0 := by
        rw [Nat.mul_assoc, ← Nat.pow_add, show k + (52 - a.log2 - k) = 52 - a.log2 by omega]
        simp
      rw [e]
      exact cut_exact s _ 0 (by omega)
    · rw [show (-(k : Int) - ((a.log2 : Int) - 52)).toNat = 0 by omega, show ((a.log2 : Int) - 52 - -(k : Int)).toNat = k - (52 - a.log2) by omega]
      have e : a * 2 ^ k * 2 ^ 0 = a * 2 ^ (52 - a.log2) * 2 ^ (k - (52 - a.log2)) := by
        rw [Nat.mul_assoc, Nat.mul_assoc, ← Nat.pow_add, ← Nat.pow_add, show 52 - a.log2 + (k - (52 - a.log2)) = k + 0 by omega]
      rw [e]
      refine cut_exact s _ _ ?_
      rw [← e, Nat.pow_zero, Nat.mul_one, log_shift h]
      omega
  rw [hkept, show ((a.log2 : Int) - 52 - -1074).toNat = a.log2 + 1022 by omega]
  refine congrArg _ (Nat.min_eq_left ?_)
  have hup : a * 2 ^ (52 - a.log2) < 2 ^ 53 := by
    have h1 : a < 2 ^ (a.log2 + 1) := Nat.lt_log2_self
    have h2 : a * 2 ^ (52 - a.log2) < 2 ^ (a.log2 + 1) * 2 ^ (52 - a.log2) := Nat.mul_lt_mul_of_pos_right h1 (Nat.pow_pos (by decide))
    rw [← Nat.pow_add, show a.log2 + 1 + (52 - a.log2) = 53 by omega] at h2
    exact h2
  omega
theorem nearest_whole (s : Bool) (a : Nat) (h : a ≠ 0) (hb : a < 2 ^ 52) : double.nearest s a 0 = double.word s ((a.log2 + 1022) * 2 ^ 52 + a * 2 ^ (52 - a.log2)) := by
  have := nearest_scaled s a 0 h hb
  simpa using this
theorem nearest_same (s : Bool) (a k : Nat) (h : a ≠ 0) (hb : a < 2 ^ 52) : double.nearest s (a * 2 ^ k) (-(k : Int)) = double.nearest s a 0 := by
  rw [nearest_scaled s a k h hb, nearest_whole s a h hb]

theorem full_range {a : Nat} (h : a ≠ 0) (hb : a < 2 ^ 52) : 2 ^ 52 ≤ a * 2 ^ (52 - a.log2) ∧ a * 2 ^ (52 - a.log2) < 2 ^ 53 := by
  have hL := log_le h hb
  constructor
  · have h1 : 2 ^ a.log2 ≤ a := Nat.log2_self_le h
    have h2 : 2 ^ a.log2 * 2 ^ (52 - a.log2) ≤ a * 2 ^ (52 - a.log2) := Nat.mul_le_mul_right _ h1
    rw [← Nat.pow_add, show a.log2 + (52 - a.log2) = 52 by omega] at h2
    exact h2
  · have h1 : a < 2 ^ (a.log2 + 1) := Nat.lt_log2_self
    have h2 : a * 2 ^ (52 - a.log2) < 2 ^ (a.log2 + 1) * 2 ^ (52 - a.log2) := Nat.mul_lt_mul_of_pos_right h1 (Nat.pow_pos (by decide))
    rw [← Nat.pow_add, show a.log2 + 1 + (52 - a.log2) = 53 by omega] at h2
    exact h2

/-- What the word of a whole number reads as. -/
theorem read_whole (s : Bool) (a : Nat) (h : a ≠ 0) (hb : a < 2 ^ 52) : double.read (double.nearest s a 0) = .number s (a * 2 ^ (52 - a.log2)) ((a.log2 : Int) - 52) := by
  have hL := log_le h hb
  obtain ⟨h1, h2⟩ := full_range h hb
  rw [nearest_whole s a h hb]
  obtain ⟨M, hM⟩ : ∃ M, M = a * 2 ^ (52 - a.log2) := ⟨_, rfl⟩
  rw [← hM] at h1 h2 ⊢
  obtain ⟨L, hLe⟩ : ∃ L, L = a.log2 := ⟨_, rfl⟩
  rw [← hLe] at hL ⊢
  have hsw : double.signWeight = 2 ^ 63 := rfl
  have hlp : double.leastPlace = -1074 := by decide
  have hbin : double.binade = 2 ^ 52 := rfl
  have hinf : double.infRung = 2047 * 2 ^ 52 := by decide
  obtain ⟨r, hr⟩ : ∃ r, r = (L + 1022) * 2 ^ 52 + M := ⟨_, rfl⟩
  rw [← hr]
  have hr2 : r < 2047 * 2 ^ 52 := by omega
  have hr3 : 2 ^ 52 ≤ r := by omega
  have hneg : (double.word s r) / 2 ^ 63 % 2 = s.toNat := by
    unfold Format.word
    rw [hsw]
    cases s
    · simp; omega
    · simp; omega
  have hmod : (double.word s r) % 2 ^ 63 = r := by
    unfold Format.word
    rw [hsw]
    cases s
    · simp; omega
    · simp; omega
  unfold Format.read
  rw [hsw, hneg, hmod, hlp, hbin, hinf]
  have hsb : (s.toNat == 1) = s := by cases s <;> rfl
  have hd1 : r / 2 ^ 52 = L + 1023 := by omega
  have hd2 : r % 2 ^ 52 = M - 2 ^ 52 := by omega
  simp only [hsb]
  rw [if_neg (by omega), if_pos hr2, hd1, hd2, show 2 ^ 52 + (M - 2 ^ 52) = M by omega, show (-1074 : Int) + ((L + 1023 - 1 : Nat) : Int) = (L : Int) - 52 by omega]
theorem read_zero : double.read (double.nearest false 0 0) = .number false 0 (-1074) := by decide +kernel

theorem fw_zero : fw 0 = double.nearest false 0 0 := by unfold fw; simp
/-- What a whole number's word reads as: a magnitude scaled by 2^k, k at most 1074. -/
theorem read_fw (n : Int) (hb : n.natAbs < 2 ^ 52) : ∃ k : Nat, k ≤ 1074 ∧ double.read (fw n) = .number (n < 0) (n.natAbs * 2 ^ k) (-(k : Int)) := by
  by_cases h : n.natAbs = 0
  · have hn : n = 0 := by omega
    subst hn
    obtain ⟨K, hK⟩ : ∃ K, K = 1074 := ⟨_, rfl⟩
    refine ⟨K, by omega, ?_⟩
    rw [fw_zero, read_zero, show (0 : Int).natAbs * 2 ^ K = 0 from Nat.zero_mul _, hK]
    rfl
  · have hL := log_le h hb
    refine ⟨52 - n.natAbs.log2, by omega, ?_⟩
    unfold fw
    rw [read_whole _ _ h hb]
    congr 1
    omega
theorem signed_scaled (n : Int) (k j : Nat) : signed (n < 0) (n.natAbs * 2 ^ k) j = n * 2 ^ (k + j) := by
  unfold signed
  rw [Nat.shiftLeft_eq, Nat.mul_assoc, ← Nat.pow_add]
  by_cases h : n < 0
  · simp only [h, decide_true, if_true]
    rw [Int.natCast_mul, Int.natCast_pow, show ((n.natAbs : Nat) : Int) = -n by omega]
    simp [Int.neg_mul]
  · simp only [h, decide_false, Bool.false_eq_true, if_false]
    rw [Int.natCast_mul, Int.natCast_pow, show ((n.natAbs : Nat) : Int) = n by omega]
    simp

/-- Sums of whole numbers are exact. -/
theorem add_fw (a b : Int) (ha : a.natAbs < 2 ^ 51) (hb : b.natAbs < 2 ^ 51) (hs : a + b ≠ 0) : double.add (fw a) (fw b) = some (fw (a + b)) := by
  obtain ⟨i, _, ri⟩ := read_fw a (by omega)
  obtain ⟨j, _, rj⟩ := read_fw b (by omega)
  unfold Format.add
  rw [ri, rj]
  unfold Datum.sum
  have hmin : min (-(i : Int)) (-(j : Int)) = -((max i j : Nat) : Int) := by omega
  simp only [hmin]
  rw [show (-(i : Int) - -((max i j : Nat) : Int)).toNat = max i j - i by omega, show (-(j : Int) - -((max i j : Nat) : Int)).toNat = max i j - j by omega, signed_scaled, signed_scaled, show i + (max i j - i) = max i j by omega, show j + (max i j - j) = max i j by omega, ← Int.add_mul]
  obtain ⟨K, hK⟩ : ∃ K, K = max i j := ⟨_, rfl⟩
  rw [← hK]
  have hp : (0 : Int) < 2 ^ K := by exact_mod_cast Nat.pow_pos (n := K) (show 0 < 2 by decide)
  have hne : (a + b) * 2 ^ K ≠ 0 := Int.mul_ne_zero hs (by omega)
  have hlt : decide ((a + b) * 2 ^ K < 0) = decide (a + b < 0) := by
    refine decide_eq_decide.2 ⟨fun h => ?_, fun h => ?_⟩
    · apply Classical.byContradiction
      intro hn
      have := Int.mul_nonneg (show 0 ≤ a + b by omega) (show (0 : Int) ≤ 2 ^ K by omega)
      omega
    · exact Int.mul_neg_of_neg_of_pos h hp
  have habs : ((a + b) * 2 ^ K).natAbs = (a + b).natAbs * 2 ^ K := by
    rw [Int.natAbs_mul, Int.natAbs_pow]
    rfl
  rw [if_neg hne, hlt, habs]
  simp only [Option.map_some, Format.write]
  rw [nearest_same _ _ K (by omega) (by omega)]
  rfl

/-- A whole number comes back. -/
theorem toInt_fw (a : Int) (h0 : a ≠ 0) (ha : a.natAbs < 2 ^ 52) : (double.read (fw a)).toInt .zero = some a := by
  unfold fw
  rw [read_whole _ _ (by omega) ha]
  have hL := log_le (show a.natAbs ≠ 0 by omega) ha
  unfold Datum.toInt Datum.integral
  have e1 : ((a.natAbs.log2 : Int) - 52).toNat = 0 := by omega
  have e2 : (-((a.natAbs.log2 : Int) - 52)).toNat = 52 - a.natAbs.log2 := by omega
  simp only [e1, e2, Nat.shiftLeft_zero]
  rw [cut_zero _ _ _ (by rw [log_shift (by omega)]; omega)]
  have h := signed_scaled a 0 0
  simp only [Nat.pow_zero, Nat.mul_one, Nat.add_zero, Int.pow_zero, Int.mul_one] at h
  rw [h]
end Go.Proofs.YtlimibjmccbdlaaGreatDoor
