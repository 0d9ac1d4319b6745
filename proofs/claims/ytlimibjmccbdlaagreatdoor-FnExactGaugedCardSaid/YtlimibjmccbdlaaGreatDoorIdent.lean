/-
  What isIdent, validateIdent answer: isIdent returns 'identB', for every text.
-/
import Derived.Test.YtlimibjmccbdlaaGreatDoorBase
namespace Go.Proofs.YtlimibjmccbdlaaGreatDoor
open Go.RowKit

/-- A sign that a name may have at place i. -/
def signAt (i : Nat) (c : UInt8) : Bool :=
  (97 ≤ c.toNat && c.toNat ≤ 122) || (65 ≤ c.toNat && c.toNat ≤ 90) || c.toNat == 95 || c.toNat == 58 || c.toNat == 46 || (0 < i && 48 ≤ c.toNat && c.toNat ≤ 57)
/-- A text is a plain name. -/
def identB (s : ByteArray) : Bool := decide (0 < s.size ∧ ∀ i (h : i < s.size), signAt i s[i] = true)
theorem identB_bad {s : ByteArray} {k : Nat} (h : k < s.size) (hv : signAt k s[k] = false) : identB s = false := by
  unfold identB
  exact decide_eq_false (fun ⟨_, ha⟩ => by rw [ha k h] at hv; cases hv)
theorem identB_good {s : ByteArray} (h0 : 0 < s.size) (h : ∀ j (h : j < s.size), j < s.size → signAt j s[j] = true) : identB s = true := decide_eq_true ⟨h0, fun i hi => h i hi hi⟩
theorem identB_empty {s : ByteArray} (h0 : s.size = 0) : identB s = false := decide_eq_false (fun ⟨h, _⟩ => by omega)
theorem sign_more {s : ByteArray} {k : Nat} (h : ∀ j (h : j < s.size), j < k → signAt j s[j] = true) (hk : k < s.size) (hv : signAt k s[k] = true) : ∀ j (h : j < s.size), j < k + 1 → signAt j s[j] = true := by
  intro j hj hjk
  by_cases e : j = k
  · subst e; exact hv
  · exact h j hj (by omega)
theorem ret_bool {a b : Bool} (h : a = b) : Ending.returned (.bool a) = .returned (.bool b) := by rw [h]
theorem isEmpty_of_zero {s : ByteArray} (h : s.size = 0) : (!s.toList.isEmpty) = false := by
  rw [ByteArray.toList_eq]
  obtain ⟨⟨l⟩⟩ := s
  cases l with
  | nil => rfl
  | cons a r => exact absurd h (Nat.succ_ne_zero _)
theorem isEmpty_of_pos {s : ByteArray} (h : ¬ s.size = 0) : (!s.toList.isEmpty) = true := by
  rw [ByteArray.toList_eq]
  obtain ⟨⟨l⟩⟩ := s
  cases l with
  | nil => exact absurd rfl h
  | cons a r => rfl
/-- The classes of signs that isIdent tells apart. -/
theorem classes (c : Nat) : (97 ≤ c ∧ c ≤ 122) ∨ (65 ≤ c ∧ c ≤ 90) ∨ (95 ≤ c ∧ c ≤ 95) ∨ (58 ≤ c ∧ c ≤ 58) ∨ (46 ≤ c ∧ c ≤ 46) ∨ (48 ≤ c ∧ c ≤ 57) ∨ (c ≤ 45) ∨ (47 ≤ c ∧ c ≤ 47) ∨ (59 ≤ c ∧ c ≤ 64) ∨ (91 ≤ c ∧ c ≤ 94) ∨ (96 ≤ c ∧ c ≤ 96) ∨ (123 ≤ c) := by omega

set_option maxHeartbeats 4000000 in
theorem isIdent_any (s : ByteArray) (w : World) (hs : s.size ≤ 9223372036854775807) :
    Calls Tryz.prog 53 #[.string s] w fun e w' => e = .returned (.bool (identB s)) ∧ w = w' := by
  go_enter Tryz.func53, Tryz.ntmps53
  go_wp2
  go_loop [3] (fun i => ∃ k : Nat, k ≤ s.size ∧ i = .int .i64 k ∧ ∀ j (h : j < s.size), j < k → signAt j s[j] = true) (fun i => s.size - (intOf i).toNat)
  case atStart => exact ⟨0, Nat.zero_le _, rfl, fun j h hj => absurd hj (by omega)⟩
  case round =>
    obtain ⟨k, hk, rfl, hall⟩ := hrel
    have HA := Lib.hid hall
    clear hall
    by_cases hlt : k < s.size
    · have HK := Lib.hid (show k = 0 ∨ 0 < k by omega)
      have HC := Lib.hid (classes s[k].toNat)
      rcases HK.out with hk0 | hk0
      · subst hk0
        clear HK
        rcases HC.out with ⟨h1, h2⟩ | ⟨h1, h2⟩ | ⟨h1, h2⟩ | ⟨h1, h2⟩ | ⟨h1, h2⟩ | ⟨h1, h2⟩ | h1 | ⟨h1, h2⟩ | ⟨h1, h2⟩ | ⟨h1, h2⟩ | ⟨h1, h2⟩ | h1
        all_goals
          clear HC
          go_wp2
          all_goals first
            | (have hv : signAt 0 s[0] = true := by unfold signAt; simp; omega
               go_round
               case rel => exact ⟨0 + 1, by omega, by go_num, sign_more HA.out hlt hv⟩
               case measure => simp [intOf]; omega)
            | (have hv : signAt 0 s[0] = false := by unfold signAt; simp; omega
               go_ret
               exact ⟨ret_bool (identB_bad hlt hv).symm, rfl⟩)
            | (exfalso; rename_i hh; revert hh; simp; omega)
            | (exfalso; rename_i hh _; revert hh; simp; omega)
            | (exfalso; rename_i hh _ _; revert hh; simp; omega)
            | (exfalso; rename_i hh _ _ _; revert hh; simp; omega)
      · clear HK
        rcases HC.out with ⟨h1, h2⟩ | ⟨h1, h2⟩ | ⟨h1, h2⟩ | ⟨h1, h2⟩ | ⟨h1, h2⟩ | ⟨h1, h2⟩ | h1 | ⟨h1, h2⟩ | ⟨h1, h2⟩ | ⟨h1, h2⟩ | ⟨h1, h2⟩ | h1
        all_goals
          clear HC
          go_wp2
          all_goals first
            | (have hv : signAt k s[k] = true := by unfold signAt; simp; omega
               go_round
               case rel => exact ⟨k + 1, by omega, by go_num, sign_more HA.out hlt hv⟩
               case measure => simp [intOf]; omega)
            | (have hv : signAt k s[k] = false := by unfold signAt; simp; omega
               go_ret
               exact ⟨ret_bool (identB_bad hlt hv).symm, rfl⟩)
            | (exfalso; rename_i hh; revert hh; simp; omega)
            | (exfalso; rename_i hh _; revert hh; simp; omega)
            | (exfalso; rename_i hh _ _; revert hh; simp; omega)
            | (exfalso; rename_i hh _ _ _; revert hh; simp; omega)
    · have hks : k = s.size := by omega
      subst hks
      by_cases h0 : s.size = 0
      · have HE := Lib.hid ((isEmpty_of_zero h0).trans (identB_empty h0).symm)
        clear h0
        go_wp2
        go_ret
        exact ⟨ret_bool HE.out, rfl⟩
      · have HE := Lib.hid ((isEmpty_of_pos h0).trans (identB_good (by omega) HA.out).symm)
        clear h0
        go_wp2
        go_ret
        exact ⟨ret_bool HE.out, rfl⟩

/-- errors.New makes an error. -/
theorem errNew (s : ByteArray) (w : World) :
    Calls Tryz.prog 20 #[.string s] w fun e w' => e = .returned (.iface 75 (.pointer (some ⟨w.heap.size, 0, none⟩))) ∧ w.alloc (.cells #[.string s] 77) = w' := by
  go_enter Tryz.func20, Tryz.ntmps20
  go_wp2
  go_ret
  exact ⟨rfl, rfl⟩

/-- A plain name is let by. -/
theorem validateIdent_yes (s : ByteArray) (w : World) (hs : s.size ≤ 9223372036854775807) (h : identB s = true) :
    Calls Tryz.prog 45 #[.string s] w fun e w' => e = .returned .nilIface ∧ w = w' := by
  have HC : Hid _ := Lib.hid (fun W : World => isIdent_any s W hs)
  rw [h] at HC
  clear h
  go_enter Tryz.func45, Tryz.ntmps45
  go_wp2_with fail
  refine (HC.out _).mono ?_
  rintro e w' ⟨rfl, rfl⟩
  go_wp2
  go_ret
  exact ⟨rfl, rfl⟩
theorem validateIdent_no (s : ByteArray) (w : World) (hs : s.size ≤ 9223372036854775807) (h : identB s = false) :
    Calls Tryz.prog 45 #[.string s] w fun e w' => (∃ a, e = .returned (.iface 75 a)) ∧ Below w.heap.size w w' := by
  have HC : Hid _ := Lib.hid (fun W : World => isIdent_any s W hs)
  rw [h] at HC
  clear h
  go_enter Tryz.func45, Tryz.ntmps45
  go_wp2_with fail
  refine (HC.out _).mono ?_
  rintro e w' ⟨rfl, rfl⟩
  go_wp2_with (go_at_call 20; refine (errNew _ _).mono ?_; rintro e w' ⟨rfl, rfl⟩)
  go_ret
  exact ⟨⟨_, rfl⟩, (Below.refl _ _).alloc (Nat.le_refl _) _⟩
end Go.Proofs.YtlimibjmccbdlaaGreatDoor
