/-
  SEAT b6604652aM: THE READERS' CONTRACTS AS THE LAWS USE THEM: sameAt (13) at a clone, readRecord (14) at a record; the bounds zzBytes (10, 15).
-/
import Derived.Test.Qxb6604652aModsReads
import Derived.Test.Qxb6604652aModsMakes
namespace Go.Proofs.Qxb6604652aMods
open Go.RowKit

/-- how long a record's head is -/
def hdLen (isnil : Bool) (l : List UInt8) : Nat := if isnil = true then (Lib.uvarint 1).length else (Lib.uvarint (2 * l.length)).length

theorem rec_nil_len (l : List UInt8) : (recOf true l).length = hdLen true l := rfl
theorem rec_some_len (l : List UInt8) : (recOf false l).length = hdLen false l + l.length := by
  show (Lib.uvarint (2 * l.length) ++ l).length = (Lib.uvarint (2 * l.length)).length + l.length
  rw [List.length_append]
theorem hdLen_le (isnil : Bool) (l : List UInt8) (h : l.length ≤ 1048576) : 1 ≤ hdLen isnil l ∧ hdLen isnil l ≤ 4 := by
  unfold hdLen
  split
  · exact ⟨Lib.uvarint_pos _, uv_len4 (by omega)⟩
  · exact ⟨Lib.uvarint_pos _, uv_len4 (by omega)⟩
theorem rec_body (l : List UInt8) (j : Nat) : bat (recOf false l) (hdLen false l + j) = bat l j := by
  show bat (Lib.uvarint (2 * l.length) ++ l) ((Lib.uvarint (2 * l.length)).length + j) = _
  exact bat_right _ _ _

theorem sameAt_held (g N C B p : Nat) (O : List UInt8) (ao : Option Addr) (S : List UInt8) (w : World) (hO : Lie w g 0 O) (hN : O.length = N) (hS : Held B w ao S) (hN' : N ≤ 9000000) (hp : p + S.length ≤ N)
    (heq : ∀ j, j < S.length → bat O (p + j) = bat S j) :
    Calls Trym.prog 13 #[.slice (some ⟨g, 0, none⟩) N C, .int .i64 p, .slice ao S.length S.length] w fun e w' => e = .returned (.bool true) ∧ ∃ q, w' = w.drewN q := by
  rcases hS with ⟨rfl, rfl⟩ | ⟨b, rfl, _, hl⟩
  · exact sameAt_zero _ N C p none _ w hN' (by simpa using hp)
  · exact sameAt_some g 0 N C O p b 0 S.length _ S w hO hN hl rfl hN' hp heq

theorem sameAt_held0 (g N C B : Nat) (O : List UInt8) (ao : Option Addr) (S : List UInt8) (w : World) (hO : Lie w g 0 O) (hN : O.length = N) (hS : Held B w ao S) (hN' : N ≤ 9000000) (hp : S.length ≤ N)
    (heq : ∀ j, j < S.length → bat O j = bat S j) :
    Calls Trym.prog 13 #[.slice (some ⟨g, 0, none⟩) N C, .int .i64 0, .slice ao S.length S.length] w fun e w' => e = .returned (.bool true) ∧ ∃ q, w' = w.drewN q := by
  have h := sameAt_held g N C B 0 O ao S w hO hN hS hN' (by omega) (fun j hj => by rw [Nat.zero_add]; exact heq j hj)
  exact h

theorem readRecord_any (g N C : Nat) (O : List UInt8) (p : Nat) (isnil : Bool) (l : List UInt8) (w : World) (hO : Lie w g 0 O) (hN : O.length = N) (hN' : N ≤ 9000000) (hl : l.length ≤ 1048576) (hp : p + (recOf isnil l).length ≤ N)
    (heq : ∀ j, j < (recOf isnil l).length → bat O (p + j) = bat (recOf isnil l) j) :
    Calls Trym.prog 14 #[.slice (some ⟨g, 0, none⟩) N C, .int .i64 p] w fun e w' => e = .returned (.tuple #[.bool isnil, .int .i64 ((p + hdLen isnil l : Nat) : Int), .int .i64 ((p + (recOf isnil l).length : Nat) : Int), .bool true]) ∧ w' = w := by
  cases isnil with
  | true => exact readRecord_nil g 0 N C O p w hO hN hN' hp heq
  | false =>
    have h2 := rec_some_len l
    have hp2 : p + (Lib.uvarint (2 * l.length)).length + l.length ≤ N := by
      have : hdLen false l = (Lib.uvarint (2 * l.length)).length := rfl
      omega
    have h := readRecord_some g 0 N C O p l.length w hO hN hN' hl hp2 (fun j hj => by
      rw [heq j (by have : hdLen false l = (Lib.uvarint (2 * l.length)).length := rfl
                    omega)]
      exact bat_left _ _ _ hj)
    rw [h2, ← Nat.add_assoc]
    exact h

/-- .. the place given as any sum that comes to p -/
theorem sameAt_at (g N C B p : Nat) (O : List UInt8) (ao : Option Addr) (S : List UInt8) (w : World) (z : Int) (hz : z = (p : Int)) (hO : Lie w g 0 O) (hN : O.length = N) (hS : Held B w ao S) (hN' : N ≤ 9000000) (hp : p + S.length ≤ N)
    (heq : ∀ j, j < S.length → bat O (p + j) = bat S j) :
    Calls Trym.prog 13 #[.slice (some ⟨g, 0, none⟩) N C, .int .i64 z, .slice ao S.length S.length] w fun e w' => e = .returned (.bool true) ∧ ∃ q, w' = w.drewN q := by
  subst hz
  exact sameAt_held g N C B p O ao S w hO hN hS hN' hp heq

theorem readRecord_at (g N C : Nat) (O : List UInt8) (p : Nat) (isnil : Bool) (l : List UInt8) (w : World) (z : Int) (hz : z = (p : Int)) (hO : Lie w g 0 O) (hN : O.length = N) (hN' : N ≤ 9000000) (hl : l.length ≤ 1048576) (hp : p + (recOf isnil l).length ≤ N)
    (heq : ∀ j, j < (recOf isnil l).length → bat O (p + j) = bat (recOf isnil l) j) :
    Calls Trym.prog 14 #[.slice (some ⟨g, 0, none⟩) N C, .int .i64 z] w fun e w' => e = .returned (.tuple #[.bool isnil, .int .i64 ((p + hdLen isnil l : Nat) : Int), .int .i64 ((p + (recOf isnil l).length : Nat) : Int), .bool true]) ∧ w' = w := by
  subst hz
  exact readRecord_any g N C O p isnil l w hO hN hN' hl hp heq

set_option maxHeartbeats 400000 in
theorem zz10_yes (a0 : Option Addr) (n0 c0 : Nat) (a1 : Option Addr) (n1 c1 : Nat) (w : World) (h : n0 + n1 ≤ 1048576) :
    Calls Trym.prog 10 #[.slice a0 n0 c0, .slice a1 n1 c1] w fun e w' => e = .returned (.bool true) ∧ w' = w := by
  go_enter Trym.func10, Trym.ntmps10
  go_wp2
  go_ret
  exact ⟨rfl, rfl⟩

set_option maxHeartbeats 400000 in
theorem zz10_no (a0 : Option Addr) (n0 c0 : Nat) (a1 : Option Addr) (n1 c1 : Nat) (w : World) (h : ¬ n0 + n1 ≤ 1048576) (h0 : n0 ≤ 9223372036854775807) (h1 : n1 ≤ 9223372036854775807) :
    Calls Trym.prog 10 #[.slice a0 n0 c0, .slice a1 n1 c1] w fun e w' => e = .returned (.bool false) ∧ w' = w := by
  go_enter Trym.func10, Trym.ntmps10
  go_wp2
  all_goals (go_ret; exact ⟨rfl, rfl⟩)

set_option maxHeartbeats 400000 in
theorem zz15_yes (a0 : Option Addr) (n0 c0 : Nat) (a1 : Option Addr) (n1 c1 : Nat) (a2 : Option Addr) (n2 c2 : Nat) (w : World) (h : n0 + n1 + n2 ≤ 1048576) :
    Calls Trym.prog 15 #[.slice a0 n0 c0, .slice a1 n1 c1, .slice a2 n2 c2] w fun e w' => e = .returned (.bool true) ∧ w' = w := by
  go_enter Trym.func15, Trym.ntmps15
  go_wp2
  go_ret
  exact ⟨rfl, rfl⟩

set_option maxHeartbeats 400000 in
theorem zz15_no (a0 : Option Addr) (n0 c0 : Nat) (a1 : Option Addr) (n1 c1 : Nat) (a2 : Option Addr) (n2 c2 : Nat) (w : World) (h : ¬ n0 + n1 + n2 ≤ 1048576) (h0 : n0 ≤ 9223372036854775807) (h1 : n1 ≤ 9223372036854775807) (h2 : n2 ≤ 9223372036854775807) :
    Calls Trym.prog 15 #[.slice a0 n0 c0, .slice a1 n1 c1, .slice a2 n2 c2] w fun e w' => e = .returned (.bool false) ∧ w' = w := by
  go_enter Trym.func15, Trym.ntmps15
  go_wp2
  all_goals (go_ret; exact ⟨rfl, rfl⟩)

end Go.Proofs.Qxb6604652aMods
