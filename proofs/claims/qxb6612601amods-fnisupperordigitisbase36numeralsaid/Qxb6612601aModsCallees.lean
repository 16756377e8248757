/-
  SEAT b6612601aM: THE PLAIN LAW and THE CALLEES' CONTRACTS: isUpperOrDigit (8), ZZisUpperOrDigit (5), base36Numeral (6), clampTo (9), numeralRank (7).
-/
import Derived.Test.Qxb6612601aModsProg
import Derived.WalkKit
namespace Go.Proofs.Qxb6612601aMods
open Go.RowKit

theorem ret_int {k : IntKind} {a b : Int} (h : a = b) : Ending.returned (.int k a) = .returned (.int k b) := by rw [h]
theorem ret_bool {a b : Bool} (h : a = b) : Ending.returned (.bool a) = .returned (.bool b) := by rw [h]

/-- an upper-case letter or a digit -/
def uod (c : Int) : Bool := decide ((65 ≤ c ∧ c ≤ 90) ∨ (48 ≤ c ∧ c ≤ 57))
/-- the numeral of v in base 36 -/
def num (v : Nat) : Int := if v < 10 then 48 + v else 65 + v - 10
/-- c is the numeral of some u < v -/
def want (v : Nat) (c : Int) : Bool := decide ((48 ≤ c ∧ c < 58 ∧ c < 48 + v) ∨ (65 ≤ c ∧ c < 55 + v))
/-- x brought into 0 .. hi -/
def clamp (x hi : Int) : Int := if x < 0 then 0 else if hi < x then hi else x
/-- how many d < k are accepted -/
def rk (k : Int) : Int := clamp (k - 48) 10 + clamp (k - 65) 26

theorem want_zero (c : Int) : want 0 c = false := by
  unfold want; rw [decide_eq_false_iff_not]; omega
theorem want_hit (v : Nat) (c : Int) (h : num v = c) : want (v + 1) c = true := by
  unfold want num at *; rw [decide_eq_true_iff]; split at h <;> omega
theorem want_miss (v : Nat) (c : Int) (h : ¬ num v = c) : want (v + 1) c = want v c := by
  unfold want num at *
  rw [decide_eq_decide]
  split at h <;> omega
theorem want_all (c : Int) : want 36 c = uod c := by
  unfold want uod
  rw [decide_eq_decide]
  omega
theorem num_range (v : Nat) (h : v < 36) : 48 ≤ num v ∧ num v ≤ 90 := by
  unfold num; split <;> omega
theorem rk_zero : rk 0 = 0 := by simp [rk, clamp]
theorem rk_range (k : Int) : 0 ≤ rk k ∧ rk k ≤ 36 := by
  unfold rk clamp
  split <;> split <;> (try split) <;> (try split) <;> omega
theorem rk_yes (k : Int) (h : uod k = true) : rk (k + 1) = rk k + 1 := by
  unfold uod at h; rw [decide_eq_true_iff] at h
  unfold rk clamp
  repeat' split
  all_goals omega
theorem rk_no (k : Int) (h : uod k = false) : rk (k + 1) = rk k := by
  unfold uod at h; rw [decide_eq_false_iff_not] at h
  unfold rk clamp
  repeat' split
  all_goals omega

set_option maxHeartbeats 400000 in
theorem uod_any (c : Int) (w : World) :
    Calls Trym.prog 8 #[.int .u8 c] w fun e w' => e = .returned (.bool (uod c)) ∧ w' = w := by
  by_cases h1 : 65 ≤ c
  · by_cases h2 : c ≤ 90
    · have e : uod c = true := by unfold uod; rw [decide_eq_true_iff]; omega
      rw [e]; clear e
      go_enter Trym.func8, Trym.ntmps8
      go_wp2
      go_ret
      exact ⟨rfl, rfl⟩
    · have e : uod c = false := by unfold uod; rw [decide_eq_false_iff_not]; omega
      rw [e]; clear e
      have h3 : 48 ≤ c := by omega
      have h4 : ¬ c ≤ 57 := by omega
      go_enter Trym.func8, Trym.ntmps8
      go_wp2
      go_ret
      exact ⟨rfl, rfl⟩
  · by_cases h3 : 48 ≤ c
    · by_cases h4 : c ≤ 57
      · have e : uod c = true := by unfold uod; rw [decide_eq_true_iff]; omega
        rw [e]; clear e
        go_enter Trym.func8, Trym.ntmps8
        go_wp2
        go_ret
        exact ⟨rfl, rfl⟩
      · have e : uod c = false := by unfold uod; rw [decide_eq_false_iff_not]; omega
        rw [e]; clear e
        go_enter Trym.func8, Trym.ntmps8
        go_wp2
        go_ret
        exact ⟨rfl, rfl⟩
    · have e : uod c = false := by unfold uod; rw [decide_eq_false_iff_not]; omega
      rw [e]; clear e
      go_enter Trym.func8, Trym.ntmps8
      go_wp2
      go_ret
      exact ⟨rfl, rfl⟩

set_option maxHeartbeats 400000 in
theorem zzuod_any (c : Int) (w : World) :
    Calls Trym.prog 5 #[.int .u8 c] w fun e w' => e = .returned (.bool (uod c)) ∧ w' = w := by
  go_enter Trym.func5, Trym.ntmps5
  go_wp2_with (go_at_call 8; refine (uod_any c _).mono ?_; rintro e w' ⟨rfl, rfl⟩)
  go_ret
  exact ⟨rfl, rfl⟩

set_option maxHeartbeats 400000 in
theorem num_any (v : Nat) (h : v < 36) (w : World) :
    Calls Trym.prog 6 #[.int .i64 v] w fun e w' => e = .returned (.int .u8 (num v)) ∧ w' = w := by
  by_cases h10 : v < 10
  · have e : num v = 48 + (v : Int) := by unfold num; rw [if_pos h10]
    rw [e]; clear e
    go_enter Trym.func6, Trym.ntmps6
    go_wp2
    go_ret
    exact ⟨rfl, rfl⟩
  · have e : num v = 65 + (v : Int) - 10 := by unfold num; rw [if_neg h10]
    rw [e]; clear e
    go_enter Trym.func6, Trym.ntmps6
    go_wp2
    go_ret
    exact ⟨rfl, rfl⟩

set_option maxHeartbeats 400000 in
theorem clamp_any (x hi : Int) (w : World) :
    Calls Trym.prog 9 #[.int .i64 x, .int .i64 hi] w fun e w' => e = .returned (.int .i64 (clamp x hi)) ∧ w' = w := by
  by_cases h1 : x < 0
  · have e : clamp x hi = 0 := by unfold clamp; rw [if_pos h1]
    rw [e]; clear e
    go_enter Trym.func9, Trym.ntmps9
    go_wp2
    go_ret
    exact ⟨rfl, rfl⟩
  · by_cases h2 : hi < x
    · have e : clamp x hi = hi := by unfold clamp; rw [if_neg h1, if_pos h2]
      rw [e]; clear e
      go_enter Trym.func9, Trym.ntmps9
      go_wp2
      go_ret
      exact ⟨rfl, rfl⟩
    · have e : clamp x hi = x := by unfold clamp; rw [if_neg h1, if_neg h2]
      rw [e]; clear e
      go_enter Trym.func9, Trym.ntmps9
      go_wp2
      go_ret
      exact ⟨rfl, rfl⟩

theorem clamp_range (x hi : Int) (h : 0 ≤ hi) : 0 ≤ clamp x hi ∧ clamp x hi ≤ hi := by
  unfold clamp; split <;> (try split) <;> omega

set_option maxHeartbeats 400000 in
theorem rank_any (x : Int) (h0 : 0 ≤ x) (h1 : x ≤ 255) (w : World) :
    Calls Trym.prog 7 #[.int .i64 x] w fun e w' => e = .returned (.int .i64 (rk (x + 1))) ∧ w' = w := by
  have c1 := clamp_range (x - 47) 10 (by omega)
  have c2 := clamp_range (x - 64) 26 (by omega)
  have er : rk (x + 1) = clamp (x - 47) 10 + clamp (x - 64) 26 := by
    unfold rk; rw [show x + 1 - 48 = x - 47 by omega, show x + 1 - 65 = x - 64 by omega]
  rw [er]; clear er
  go_enter Trym.func7, Trym.ntmps7
  go_wp2_with fail
  refine (clamp_any (x - 47) 10 _).mono ?_
  rintro e w' ⟨rfl, rfl⟩
  go_wp2_with fail
  refine (clamp_any (x - 64) 26 _).mono ?_
  rintro e w' ⟨rfl, rfl⟩
  go_wp2
  go_ret
  exact ⟨rfl, rfl⟩

theorem flip_all : ∀ n : Fin 256, uod (n.val : Int) = true → uod (bits .xor .u8 (n.val : Int) 32) = false := by
  decide +kernel

end Go.Proofs.Qxb6612601aMods
