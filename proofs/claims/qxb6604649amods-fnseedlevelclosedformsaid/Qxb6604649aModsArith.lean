/-
  THE PLAIN LAW of seat b6604649aM: no Go in sight. 'pw t' is (4^t - 1) / 3: 0, 1, 5, 21, .. ; the slots of level t are 1024 * (3 * pw t + 1), her offset 16384 * pw t, the answers held through level t 512 * pw (t + 1).
-/
import Derived.WalkKit
namespace Go.Proofs.Qxb6604649aMods

/-- (4^t - 1) / 3 -/
def pw : Nat → Int
  | 0 => 0
  | t + 1 => 4 * pw t + 1

theorem pw_zero : pw 0 = 0 := rfl
theorem pw_succ (t : Nat) : pw (t + 1) = 4 * pw t + 1 := rfl
theorem pw_nonneg (t : Nat) : 0 ≤ pw t := by
  induction t with
  | zero => simp [pw]
  | succ t ih => rw [pw_succ]; omega
theorem pw_lt_succ (t : Nat) : pw t < pw (t + 1) := by
  have := pw_nonneg t
  rw [pw_succ]; omega
theorem pw_mono {a b : Nat} (h : a ≤ b) : pw a ≤ pw b := by
  induction b with
  | zero => obtain rfl : a = 0 := by omega
            exact Int.le_refl _
  | succ b ih =>
    by_cases e : a = b + 1
    · subst e; exact Int.le_refl _
    · have h1 := ih (by omega)
      have h2 := pw_lt_succ b
      omega
theorem pw_lt {a b : Nat} (h : a < b) : pw a < pw b := by
  have h1 := pw_lt_succ a
  have h2 := pw_mono (a := a + 1) (b := b) h
  omega
theorem pw_le24 {t : Nat} (h : t ≤ 24) : pw t ≤ 93824992236885 := by
  have := pw_mono h
  have e : pw 24 = 93824992236885 := by simp [pw]
  omega
theorem pw_le26 {t : Nat} (h : t ≤ 26) : pw t ≤ 1501199875790165 := by
  have := pw_mono h
  have e : pw 26 = 1501199875790165 := by simp [pw]
  omega
theorem pw_le27 {t : Nat} (h : t ≤ 27) : pw t ≤ 6004799503160661 := by
  have := pw_mono h
  have e : pw 27 = 6004799503160661 := by simp [pw]
  omega
theorem pw_pow (t : Nat) : (4 : Int) ^ t = 3 * pw t + 1 := by
  induction t with
  | zero => simp [pw]
  | succ t ih => rw [Int.pow_succ, ih, pw_succ]; omega
theorem two_pow (t : Nat) : (2 : Int) ^ (2 * t) = 3 * pw t + 1 := by
  rw [Int.pow_mul]; exact pw_pow t
/-- The shift in seedLevelSlots, as the walk writes it. -/
theorem shl_slots (t : Nat) (h : t ≤ 26) : RowKit.wrap64 (1024 * 2 ^ (2 * t)) = 1024 * (3 * pw t + 1) := by
  have h1 := pw_le26 h
  have h2 := pw_nonneg t
  rw [two_pow]
  unfold RowKit.wrap64
  omega
theorem two_pow11 (t : Nat) : (2 : Int) ^ (2 * t + 11) = 6144 * pw t + 2048 := by
  rw [Int.pow_add, two_pow]; omega
/-- heldThrough's last line, as the walk writes it. -/
theorem held_of (t : Nat) (h : t ≤ 26) : IntKind.u64.wrap ((IntKind.u64.wrap (IntKind.u64.wrap (2 ^ (2 * t + 11)) - 512)).tdiv 3) = 512 * pw (t + 1) := by
  have h1 := pw_le26 h
  have h2 := pw_nonneg t
  rw [two_pow11, IntWalk.u64_in (6144 * pw t + 2048) ⟨by omega, by omega⟩, IntWalk.u64_in (6144 * pw t + 2048 - 512) ⟨by omega, by omega⟩,
    IntWalk.u64_quo _ _ ⟨by omega, by omega, by omega⟩, pw_succ]
  omega
/-- The shift in FnSeedLevelFillsLevelsInOrder, as the walk writes it. -/
theorem shl_count (t : Nat) (h : t ≤ 23) : IntKind.u64.wrap (512 * 2 ^ (2 * t)) = 1536 * pw t + 512 := by
  have h1 := pw_le24 (t := t) (by omega)
  have h2 := pw_nonneg t
  rw [two_pow, IntWalk.u64_in _ ⟨by omega, by omega⟩]
  omega
/-- Every ordinal up to 512 * pw n lies in one level below n. -/
theorem level_of (o : Int) : ∀ n : Nat, 0 < n → o ≤ 512 * pw n → ∃ T : Nat, T < n ∧ (T = 0 ∨ 512 * pw T < o) ∧ o ≤ 512 * pw (T + 1)
  | 0, h, _ => absurd h (by omega)
  | n + 1, _, h => by
    by_cases h0 : n = 0
    · subst h0; exact ⟨0, by omega, .inl rfl, h⟩
    · by_cases h1 : o ≤ 512 * pw n
      · obtain ⟨T, a, b, c⟩ := level_of o n (by omega) h1
        exact ⟨T, by omega, b, c⟩
      · exact ⟨n, by omega, .inr (by omega), h⟩

end Go.Proofs.Qxb6604649aMods
