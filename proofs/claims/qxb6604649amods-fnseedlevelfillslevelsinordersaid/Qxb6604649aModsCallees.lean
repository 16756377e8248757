/-
  THE CALLEES' CONTRACTS of seat b6604649aM: seedLevelSlots (12), seedLevelOffset (11), ZZseedLevelOffset (9), heldThrough (8), seedLevel (10), ZZseedLevel (7).
-/
import Derived.Test.Qxb6604649aModsProg
import Derived.Test.Qxb6604649aModsArith
import Derived.WalkKit
namespace Go.Proofs.Qxb6604649aMods
open Go.RowKit

theorem ret_int {k : IntKind} {a b : Int} (h : a = b) : Ending.returned (.int k a) = .returned (.int k b) := by rw [h]
theorem ret_true {b : Bool} (h : b = true) : Ending.returned (.bool b) = .returned (.bool true) := by rw [h]

set_option maxHeartbeats 400000 in
theorem slots_any (t : Nat) (h : t ≤ 26) (w : World) :
    Calls Trym.prog 12 #[.int .i64 t] w fun e w' => e = .returned (.int .i64 (1024 * (3 * pw t + 1))) ∧ w' = w := by
  go_enter Trym.func12, Trym.ntmps12
  go_wp2
  go_ret
  exact ⟨ret_int (shl_slots t h), rfl⟩

theorem slots_zero (w : World) :
    Calls Trym.prog 12 #[.int .i64 0] w fun e w' => e = .returned (.int .i64 1024) ∧ w' = w := by
  have h := slots_any 0 (by omega) w
  rw [pw_zero] at h
  exact h

theorem slots_next (k : Nat) (h : k + 1 ≤ 26) (w : World) :
    Calls Trym.prog 12 #[.int .i64 ((k : Int) + 1)] w fun e w' => e = .returned (.int .i64 (1024 * (3 * pw (k + 1) + 1))) ∧ w' = w := by
  have h := slots_any (k + 1) h w
  rw [show (((k + 1 : Nat)) : Int) = (k : Int) + 1 from by omega] at h
  exact h

set_option maxHeartbeats 400000 in
theorem offset_any (t : Nat) (h : t ≤ 24) (w : World) :
    Calls Trym.prog 11 #[.int .i64 t] w fun e w' => e = .returned (.int .i64 (16384 * pw t)) ∧ w' = w := by
  have h1 := pw_le24 h
  have h2 := pw_nonneg t
  go_enter Trym.func11, Trym.ntmps11
  go_wp2_with (go_at_call 12; refine (slots_any t (by omega) _).mono ?_; rintro e w' ⟨rfl, rfl⟩)
  go_ret
  exact ⟨ret_int (by omega), rfl⟩

set_option maxHeartbeats 400000 in
theorem zzoffset_any (t : Nat) (h : t ≤ 24) (w : World) :
    Calls Trym.prog 9 #[.int .i64 t] w fun e w' => e = .returned (.int .i64 (16384 * pw t)) ∧ w' = w := by
  go_enter Trym.func9, Trym.ntmps9
  go_wp2_with (go_at_call 11; refine (offset_any t h _).mono ?_; rintro e w' ⟨rfl, rfl⟩)
  go_ret
  exact ⟨rfl, rfl⟩

theorem zzoffset_zero (w : World) :
    Calls Trym.prog 9 #[.int .i64 0] w fun e w' => e = .returned (.int .i64 0) ∧ w' = w := by
  have h := zzoffset_any 0 (by omega) w
  rw [pw_zero] at h
  exact h

theorem zzoffset_next (t : Nat) (h : t + 1 ≤ 24) (w : World) :
    Calls Trym.prog 9 #[.int .i64 ((t : Int) + 1)] w fun e w' => e = .returned (.int .i64 (16384 * (4 * pw t + 1))) ∧ w' = w := by
  have h := zzoffset_any (t + 1) h w
  rw [show (((t + 1 : Nat)) : Int) = (t : Int) + 1 from by omega, pw_succ] at h
  exact h

set_option maxHeartbeats 400000 in
theorem held_any (t : Nat) (h : t ≤ 26) (w : World) :
    Calls Trym.prog 8 #[.int .i64 t] w fun e w' => e = .returned (.int .u64 (512 * pw (t + 1))) ∧ w' = w := by
  go_enter Trym.func8, Trym.ntmps8
  go_wp2
  go_ret
  exact ⟨ret_int (held_of t h), rfl⟩

set_option maxHeartbeats 400000 in
/-- An ordinal of level T's range is put in level T. -/
theorem level_any (T : Nat) (hT : T ≤ 26) (o : Int) (hlo : T = 0 ∨ 512 * pw T < o) (hhi : o ≤ 512 * pw (T + 1)) (w : World) :
    Calls Trym.prog 10 #[.int .u64 o] w fun e w' => e = .returned (.int .i64 T) ∧ w' = w := by
  go_enter Trym.func10, Trym.ntmps10
  go_wp2_with (go_at_call 12; refine (slots_zero _).mono ?_; rintro e w' ⟨rfl, rfl⟩)
  go_loop [3, 4] (fun t held => ∃ k : Nat, k ≤ T ∧ t = .int .i64 k ∧ held = .int .u64 (512 * pw (k + 1))) (fun t _ => T - (intOf t).toNat)
  case atStart => exact ⟨0, Nat.zero_le _, rfl, rfl⟩
  case round =>
    obtain ⟨k, hk, rfl, rfl⟩ := hrel
    have hb := pw_le27 (t := k + 1) (by omega)
    have hn := pw_nonneg (k + 1)
    by_cases hlt : k < T
    · have hm := pw_mono (a := k + 1) (b := T) (by omega)
      have hb2 := pw_le26 (t := k + 1) (by omega)
      have hgo : 512 * pw (k + 1) < o := by omega
      clear hlo hhi hm hb
      go_wp2_with (go_at_call 12; refine (slots_next k (by omega) _).mono ?_; rintro e w' ⟨rfl, rfl⟩)
      go_round
      case rel => exact ⟨k + 1, by omega, by go_num, by rw [pw_succ (k + 1)]; go_num⟩
      case measure => simp [intOf]; omega
    · obtain rfl : k = T := by omega
      clear hlo
      go_wp2
      go_ret
      exact ⟨rfl, rfl⟩

set_option maxHeartbeats 400000 in
theorem zzlevel_any (T : Nat) (hT : T ≤ 26) (o : Int) (hlo : T = 0 ∨ 512 * pw T < o) (hhi : o ≤ 512 * pw (T + 1)) (w : World) :
    Calls Trym.prog 7 #[.int .u64 o] w fun e w' => e = .returned (.int .i64 T) ∧ w' = w := by
  go_enter Trym.func7, Trym.ntmps7
  go_wp2_with (go_at_call 10; refine (level_any T hT o hlo hhi _).mono ?_; rintro e w' ⟨rfl, rfl⟩)
  go_ret
  exact ⟨rfl, rfl⟩

theorem zzlevel_in (t : Nat) (ht : t ≤ 26) (o : Int) (hlo : 512 * pw t < o) (hhi : o ≤ 512 * (4 * pw t + 1)) (w : World) :
    Calls Trym.prog 7 #[.int .u64 o] w fun e w' => e = .returned (.int .i64 t) ∧ w' = w :=
  zzlevel_any t ht o (.inr hlo) (by rw [pw_succ]; exact hhi) w

theorem zzlevel_prev (t : Nat) (h0 : 0 < t) (ht : t ≤ 26) (o : Int) (ho : o = 512 * pw t) (w : World) :
    Calls Trym.prog 7 #[.int .u64 o] w fun e w' => e = .returned (.int .i64 ((t : Int) - 1)) ∧ w' = w := by
  obtain ⟨s, rfl⟩ : ∃ s, t = s + 1 := ⟨t - 1, by omega⟩
  have hl := pw_lt_succ s
  have h := zzlevel_any s (by omega) o (.inr (by omega)) (by omega) w
  rw [show ((s + 1 : Nat) : Int) - 1 = (s : Int) from by omega]
  exact h

theorem zzlevel_next (t : Nat) (ht : t ≤ 25) (o : Int) (ho : o = 512 * (4 * pw t + 1) + 1) (w : World) :
    Calls Trym.prog 7 #[.int .u64 o] w fun e w' => e = .returned (.int .i64 ((t : Int) + 1)) ∧ w' = w := by
  have e1 := pw_succ t
  have e2 := pw_succ (t + 1)
  have h0 := pw_nonneg t
  have h := zzlevel_any (t + 1) (by omega) o (.inr (by omega)) (by omega) w
  rw [show ((t + 1 : Nat) : Int) = (t : Int) + 1 from by omega] at h
  exact h

end Go.Proofs.Qxb6604649aMods
