/-
  SEAT b6604652aM: THE READERS BY CONTRACTS: sameAt (13), readVarint (23), readRecord (14).
-/
import Derived.Test.Qxb6604652aModsProg
import Derived.Test.Qxb6604652aModsPlain
import Derived.WalkKit
import Derived.Deep.QuietTactic
import Derived.BigQuiet
namespace Go.Proofs.Qxb6604652aMods
open Go.RowKit

theorem Lie.drewN {w : World} {g o : Nat} {O : List UInt8} (h : Lie w g o O) (n : Nat) : Lie (w.drewN n) g o O := h

set_option maxHeartbeats 400000 in
theorem sameAt_some (g o N C : Nat) (O : List UInt8) (p : Nat) (b off M C' : Nat) (S : List UInt8) (w : World) (hO : Lie w g o O) (hN : O.length = N) (hS : Lie w b off S) (hM : S.length = M) (hN' : N ≤ 9000000) (hp : p + M ≤ N)
    (heq : ∀ j, j < M → bat O (p + j) = bat S j) :
    Calls Trym.prog 13 #[.slice (some ⟨g, o, none⟩) N C, .int .i64 p, .slice (some ⟨b, off, none⟩) M C'] w fun e w' => e = .returned (.bool true) ∧ ∃ q, w' = w.drewN q := by
  have HO : Hid (Lie w g o O) := hO
  have HS : Hid (Lie w b off S) := hS
  have HE : Hid (∀ j, j < M → bat O (p + j) = bat S j) := heq
  have HN : Hid (O.length = N) := hN
  have HM : Hid (S.length = M) := hM
  clear hO hS heq hN hM
  go_enter Trym.func13, Trym.ntmps13
  go_wp2
  go_loopw [7] (fun i wr => ∃ k q : Nat, k ≤ M ∧ i = .int .i64 k ∧ wr = w.drewN q) (fun i _ => M - (intOf i).toNat)
  case atStart => exact ⟨0, 0, Nat.zero_le _, rfl, rfl⟩
  case round =>
    obtain ⟨k, q, hk, rfl, rfl⟩ := hrel
    by_cases hlt : k < M
    · have c1 : w.cell? ⟨g, o + (p + k), none⟩ = some (.int .u8 (bat S k)) := by
        rw [← HE.out k hlt]; exact HO.out (p + k) (by rw [HN.out]; omega)
      have c2 : w.cell? ⟨b, off + k, none⟩ = some (.int .u8 (bat S k)) := HS.out k (by rw [HM.out]; omega)
      have b1 : (k : Int) < (M : Int) := by omega
      have b2 : (p : Int) + (k : Int) < (N : Int) := by omega
      go_wp2
      go_quiet (fail)
      go_wp2
      go_roundw
      case rel => exact ⟨k + 1, _, by omega, by go_num, rfl⟩
      case measure => simp [intOf]; omega
    · go_wp2
      go_ret
      exact ⟨rfl, _, rfl⟩

set_option maxHeartbeats 400000 in
theorem sameAt_zero (ao : Option Addr) (N C p : Nat) (bo : Option Addr) (C' : Nat) (w : World) (hN' : N ≤ 9000000) (hp : p ≤ N) :
    Calls Trym.prog 13 #[.slice ao N C, .int .i64 p, .slice bo 0 C'] w fun e w' => e = .returned (.bool true) ∧ ∃ q, w' = w.drewN q := by
  go_enter Trym.func13, Trym.ntmps13
  go_wp2
  go_loopw [7] (fun i wr => i = .int .i64 0 ∧ wr = w) (fun _ _ => 0)
  case atStart => exact ⟨rfl, rfl⟩
  case round =>
    obtain ⟨rfl, rfl⟩ := hrel
    go_wp2
    go_ret
    exact ⟨rfl, 0, rfl⟩

theorem ret_tup {a a' b b' : Int} (h1 : a = a') (h2 : b = b') : Ending.returned (.tuple #[.int .i64 a, .int .i64 b, .bool true]) = .returned (.tuple #[.int .i64 a', .int .i64 b', .bool true]) := by rw [h1, h2]

/-- what the varint of u says, zig-zag undone -/
def unzig (u : Nat) : Int := if u % 2 = 0 then ((u / 2 : Nat) : Int) else -((u / 2 : Nat) : Int) - 1

set_option maxHeartbeats 1000000 in
set_option maxRecDepth 100000 in
theorem readVarint_any (g o N C : Nat) (O : List UInt8) (p u : Nat) (w : World) (hO : Lie w g o O) (hN : O.length = N) (hN' : N ≤ 9000000) (hu : u ≤ 4194304) (hp : p + (Lib.uvarint u).length ≤ N)
    (heq : ∀ j, j < (Lib.uvarint u).length → bat O (p + j) = bat (Lib.uvarint u) j) :
    Calls Trym.prog 23 #[.slice (some ⟨g, o, none⟩) N C, .int .i64 p] w fun e w' => e = .returned (.tuple #[.int .i64 (unzig u), .int .i64 ((p + (Lib.uvarint u).length : Nat) : Int), .bool true]) ∧ w' = w := by
  have HO : Hid (Lie w g o O) := hO
  have HN : Hid (O.length = N) := hN
  have hl4 := uv_len4 hu
  obtain ⟨L, hL⟩ : ∃ L, L = (Lib.uvarint u).length := ⟨_, rfl⟩
  rw [← hL] at hp heq hl4 ⊢
  have HR : Hid (∀ j, j < L → bat O (p + j) = bat (Lib.uvarint u) j) := heq
  have HL : Hid (L = (Lib.uvarint u).length) := hL
  clear hO hN heq hL
  go_enter Trym.func23, Trym.ntmps23
  go_wp2
  go_loop [7, 8, 9, 10] (fun ux mul i k => ∃ a m y n : Nat, ux = .int .u64 a ∧ mul = .int .u64 m ∧ i = .int .i64 ((p + n : Nat) : Int) ∧ k = .int .i64 n ∧ a + y * m = u ∧ 1 ≤ m ∧ (0 < n → 0 < y) ∧
      n + (Lib.uvarint y).length = L ∧ (∀ j, j < (Lib.uvarint y).length → bat O (p + n + j) = bat (Lib.uvarint y) j)) (fun _ _ _ k => 10 - (intOf k).toNat)
  case atStart => exact ⟨0, 1, u, 0, rfl, rfl, by simp, rfl, by omega, by omega, by omega, by rw [HL.out]; omega, fun j hj => by rw [← HR.out j (by rw [HL.out]; exact hj)]; rfl⟩
  case round =>
    obtain ⟨a, m, y, n, rfl, rfl, rfl, rfl, hsum, hm1, hpos, hlen, hat⟩ := hrel
    have hyl := Lib.uvarint_pos y
    have h0 := hat 0 (by omega)
    have hn3 : n ≤ 3 := by omega
    have hpn : p + n < N := by omega
    have hcell : w.cell? ⟨g, o + (p + n), none⟩ = some (.int .u8 (bat (Lib.uvarint y) 0)) := by
      rw [← h0]; exact HO.out (p + n) (by rw [HN.out]; omega)
    have HA : Hid (∀ j, j < (Lib.uvarint y).length → bat O (p + n + j) = bat (Lib.uvarint y) j) := hat
    have HLen : Hid (n + (Lib.uvarint y).length = L) := hlen
    have HSum : Hid (a + y * m = u) := hsum
    clear hat h0 hyl hlen hsum HO HN HR HL
    by_cases hy : y < 128
    · rw [uv_small0 hy] at hcell
      have hL1 : n + 1 = L := by have := HLen.out; rw [uv_small_len hy] at this; exact this
      subst hL1
      have hs : (a : Int) + (y : Int) * (m : Int) = (u : Int) := by have := HSum.out; rw [← this]; push_cast; rfl
      have hb0 : 0 ≤ (y : Int) * (m : Int) := by rw [← Int.natCast_mul]; omega
      have hb1 : (y : Int) * (m : Int) ≤ 4194304 := by omega
      clear HA HLen HSum
      by_cases hpar : u % 2 = 0
      · have hz : ((u : Int) / 2) = unzig u := by unfold unzig; rw [if_pos hpar]; omega
        have HZ : Hid (((u : Int) / 2) = unzig u) := hz
        clear hz
        have hpar' : (u : Int) % 2 = 0 := by omega
        by_cases hn0 : 0 < n
        · have hy0 := hpos hn0
          clear hpos hpar
          go_wp2
          go_ret3
          exact ⟨ret_tup HZ.out (by omega), rfl⟩
        · clear hpos hpar
          go_wp2
          go_ret3
          exact ⟨ret_tup HZ.out (by omega), rfl⟩
      · have hz : (-((u : Int) / 2) - 1) = unzig u := by unfold unzig; rw [if_neg hpar]; omega
        have HZ : Hid ((-((u : Int) / 2) - 1) = unzig u) := hz
        clear hz
        have hpar' : (u : Int) % 2 = 1 := by omega
        by_cases hn0 : 0 < n
        · have hy0 := hpos hn0
          clear hpos hpar
          go_wp2
          go_ret3
          exact ⟨ret_tup HZ.out (by omega), rfl⟩
        · clear hpos hpar
          go_wp2
          go_ret3
          exact ⟨ret_tup HZ.out (by omega), rfl⟩
    · have hy' : 128 ≤ y := by omega
      rw [uv_big0 hy'] at hcell
      have q1 := uv_step HSum.out
      have q2 := uv_part HSum.out
      have q3 := uv_weight HSum.out hy'
      have q4 := uv_big_len hy'
      have q5 : n + 1 + (Lib.uvarint (y / 128)).length = L := by have := HLen.out; omega
      have q6 : ∀ j, j < (Lib.uvarint (y / 128)).length → bat O (p + (n + 1) + j) = bat (Lib.uvarint (y / 128)) j := fun j hj => by
        have h1 := HA.out (j + 1) (by omega)
        rw [uv_bigS hy' j] at h1
        rw [← h1]
        congr 1
        omega
      have q7 : 0 < y / 128 := by omega
      obtain ⟨d, hd⟩ : ∃ d, d = y % 128 := ⟨_, rfl⟩
      have hd1 : d < 128 := by omega
      rw [← hd] at hcell q1 q2
      obtain ⟨y', hy''⟩ : ∃ y', y' = y / 128 := ⟨_, rfl⟩
      rw [← hy''] at q1 q5 q6 q7
      have ha : a ≤ u := by have := HSum.out; omega
      have hb0 : 0 ≤ (d : Int) * (m : Int) := by rw [← Int.natCast_mul]; omega
      have hb1 : (d : Int) * (m : Int) ≤ 4194304 := by rw [← Int.natCast_mul]; omega
      have Q1 : Hid (a + d * m + y' * (m * 128) = u) := q1
      have Q5 : Hid (n + 1 + (Lib.uvarint y').length = L) := q5
      have Q6 : Hid (∀ j, j < (Lib.uvarint y').length → bat O (p + (n + 1) + j) = bat (Lib.uvarint y') j) := q6
      clear q1 q5 q6 q4 hd hy'' HA HLen HSum hpos hy q2
      go_wp2
      go_round
      case rel => exact ⟨a + d * m, m * 128, y', n + 1, by push_cast; rfl, by push_cast; rfl, by push_cast; go_num, by go_num, Q1.out, by omega, fun _ => q7, Q5.out, Q6.out⟩
      case measure => simp [intOf]; omega

theorem unzig_one : unzig 1 = -1 := by unfold unzig; simp
theorem unzig_two (n : Nat) : unzig (2 * n) = (n : Int) := by unfold unzig; rw [if_pos (by omega)]; omega

set_option maxHeartbeats 1000000 in
set_option maxRecDepth 100000 in
theorem readRecord_nil (g o N C : Nat) (O : List UInt8) (p : Nat) (w : World) (hO : Lie w g o O) (hN : O.length = N) (hN' : N ≤ 9000000) (hp : p + (Lib.uvarint 1).length ≤ N)
    (heq : ∀ j, j < (Lib.uvarint 1).length → bat O (p + j) = bat (Lib.uvarint 1) j) :
    Calls Trym.prog 14 #[.slice (some ⟨g, o, none⟩) N C, .int .i64 p] w fun e w' => e = .returned (.tuple #[.bool true, .int .i64 ((p + (Lib.uvarint 1).length : Nat) : Int), .int .i64 ((p + (Lib.uvarint 1).length : Nat) : Int), .bool true]) ∧ w' = w := by
  have hV := readVarint_any g o N C O p 1 w hO hN hN' (by omega) hp heq
  rw [unzig_one] at hV
  obtain ⟨q, hq⟩ : ∃ q, q = p + (Lib.uvarint 1).length := ⟨_, rfl⟩
  rw [← hq] at hV ⊢
  have HV' : Hid (Calls Trym.prog 23 #[.slice (some ⟨g, o, none⟩) N C, .int .i64 p] w fun e w' => e = .returned (.tuple #[.int .i64 (-1), .int .i64 (q : Int), .bool true]) ∧ w' = w) := hV
  clear hV hO hN heq hq hp
  go_enter Trym.func14, Trym.ntmps14
  go_wp2_with fail
  refine HV'.out.mono ?_
  rintro e w' ⟨rfl, rfl⟩
  go_wp2
  exact bodyPost_ret (v := .tuple #[.bool true, .int .i64 (q : Int), .int .i64 (q : Int), .bool true]) (by simp [results, Trym.results14, go_sem]) rfl ⟨rfl, rfl⟩

set_option maxHeartbeats 1000000 in
set_option maxRecDepth 100000 in
theorem readRecord_some (g o N C : Nat) (O : List UInt8) (p M : Nat) (w : World) (hO : Lie w g o O) (hN : O.length = N) (hN' : N ≤ 9000000) (hM : M ≤ 1048576) (hp : p + (Lib.uvarint (2 * M)).length + M ≤ N)
    (heq : ∀ j, j < (Lib.uvarint (2 * M)).length → bat O (p + j) = bat (Lib.uvarint (2 * M)) j) :
    Calls Trym.prog 14 #[.slice (some ⟨g, o, none⟩) N C, .int .i64 p] w fun e w' => e = .returned (.tuple #[.bool false, .int .i64 ((p + (Lib.uvarint (2 * M)).length : Nat) : Int), .int .i64 ((p + (Lib.uvarint (2 * M)).length + M : Nat) : Int), .bool true]) ∧ w' = w := by
  have hV := readVarint_any g o N C O p (2 * M) w hO hN hN' (by omega) (by omega) heq
  rw [unzig_two] at hV
  obtain ⟨q, hq⟩ : ∃ q, q = p + (Lib.uvarint (2 * M)).length := ⟨_, rfl⟩
  rw [← hq] at hV hp ⊢
  have HV' : Hid (Calls Trym.prog 23 #[.slice (some ⟨g, o, none⟩) N C, .int .i64 p] w fun e w' => e = .returned (.tuple #[.int .i64 (M : Int), .int .i64 (q : Int), .bool true]) ∧ w' = w) := hV
  clear hV hO hN heq hq
  go_enter Trym.func14, Trym.ntmps14
  go_wp2_with fail
  refine HV'.out.mono ?_
  rintro e w' ⟨rfl, rfl⟩
  go_wp2
  exact bodyPost_ret (v := .tuple #[.bool false, .int .i64 (q : Int), .int .i64 ((q + M : Nat) : Int), .bool true]) (by simp [results, Trym.results14, go_sem]) rfl ⟨rfl, rfl⟩

end Go.Proofs.Qxb6604652aMods
