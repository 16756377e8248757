/-
  SEAT b6604652aM: WHAT MAKES MEMORY, BY CONTRACTS: cloneBytes (11), binary.AppendUvarint (30), binary.AppendVarint (26), appendNullable (22).
  The walk of AppendUvarint goes as the shelf's own (Derived/Shelf/Bin/AppendUvarint.lean), over a slice that is the call's own OR full and below B ('Src'): so that what lies below B, the other clones among it, is seen to stand.
-/
import Derived.Test.Qxb6604652aModsProg
import Derived.Test.Qxb6604652aModsPlain
import Derived.WalkKit
import Derived.ArgAppend
import Derived.Lib.SliceRun
import Derived.Lib.Walk
import Derived.Laws.OwnMore
namespace Go.Proofs.Qxb6604652aMods
open Go.RowKit

theorem info5 : (Trym.prog.info? 5).map (fun i => (i.zero, i.size, i.bytes)) = some (some (.int .u8 0), 1, 1) := by kernel_rfl

theorem hide {p : Prop} (h : p) : Hid p := h
theorem addr_block (a : Addr) (n : Nat) : (a.add n).block = a.block := by unfold Addr.add; split <;> rfl

/-- A slice to append to: it is the call's own (from block B on), or it is full and lies below B. -/
def Src (B : Nat) (w : World) (v : Value) (n : Nat) (X : List Value) : Prop :=
  w.ownsRow B 5 1 v n X ∨ ∃ ao, v = .slice ao n n ∧ (ao = none → n = 0) ∧ X.length = n ∧ ∀ b, ao = some b → b.block < B ∧ ∀ j u, X[j]? = some u → w.cell? (b.add j) = some u

theorem ownsRow_mono {w : World} {B B' : Nat} {v : Value} {n : Nat} {X : List Value} (h : w.ownsRow B 5 1 v n X) (hb : B' ≤ B) : w.ownsRow B' 5 1 v n X := by
  refine ⟨h.1, ?_⟩
  rcases h.2 with h2 | ⟨g, cap, cur, h1, h2, h3⟩
  · exact .inl h2
  · exact .inr ⟨g, cap, cur, h1, Nat.le_trans hb h2, h3⟩

theorem Src.alloc {B : Nat} {w : World} {v : Value} {n : Nat} {X : List Value} (h : Src B w v n X) (hB : B ≤ w.heap.size) (o : Obj) : Src B (w.alloc o) v n X := by
  rcases h with h | ⟨ao, h1, h2, h3, h4⟩
  · exact .inl (h.alloc o)
  · refine .inr ⟨ao, h1, h2, h3, fun b hb => ⟨(h4 b hb).1, fun j u hu => ?_⟩⟩
    have hlt := (h4 b hb).1
    rw [← (h4 b hb).2 j u hu]
    exact World.cell?_of_block (Below.heap_alloc _ _ _ (by rw [addr_block]; omega))

theorem Src.len {B : Nat} {w : World} {v : Value} {n : Nat} {X : List Value} (h : Src B w v n X) : X.length = n := by
  rcases h with h | ⟨ao, _, _, h3, _⟩
  · have := h.1; omega
  · exact h3

/-- ONE ELEMENT OR MORE BEHIND IT: what comes back is the call's own. -/
theorem wpList_append_src (w : World) {ops : Array Oper} {rest : List Oper} {o : Oper} {a : Act} {Q : Exit → Act → World → Prop}
    (hg : o.guard = none) (s x : Operand) (hop : o.op = Op.call { callee := Callee.builtin Builtin.append, args := #[s, x], argTypes := #[27, 27] })
    (B n : Nat) (v : Value) (X : List Value) (hs : a.eval s = v) (hsrc : Src B w v n X) (hB : B ≤ w.heap.size)
    (ad : Addr) (m c : Nat) (news : List Value) (hx : a.eval x = .slice (some ad) m c) (hn : news.length = m) (hc : ∀ j u, news[j]? = some u → w.cell? (ad.add j) = some u) (h1c : ∀ u ∈ news, u.oneCell' = true)
    (hm : 1 ≤ m) (b2 : n + m ≤ 140737488355328)
    (hK : ∀ v' w', w'.ownsRow B 5 1 v' (n + m) (X ++ news) → Below B w w' → wpList Trym.prog ops Q rest (a.put o.dst v') w') :
    wpList Trym.prog ops Q (o :: rest) a w := by
  obtain ⟨i0, hi, hz0, hz1, hz2⟩ := info_parts info5
  rcases hsrc with hown | ⟨ao, rfl, h2, h3, h4⟩
  · refine wpList_append_own w hg s x 27 hop B 5 i0 (.int .u8 0) 1 1 Trym.underlying27 hi hz0 hz1 hz2 rfl (by decide) v n X hs hown ad m c news hx (by omega) hc h1c (by unfold maxLen; omega) (by omega) hB ?_
    intro v' w' ho hgrow _
    exact hK v' w' ho ((Below.refl _ _).grown hgrow hB (fun k hk => (hown.lt k hk).1))
  · refine wpList_append_grows w hg s x 27 hop 5 i0 (.int .u8 0) 1 1 Trym.underlying27 hi hz0 hz1 hz2 rfl (by decide) ao n n X hs (fun h => ⟨h2 h, h2 h⟩) (by omega) (fun b hb => (h4 b hb).2) ad m c news hx (by omega) hc h1c (by omega) (by unfold maxLen; omega) (by omega) ?_
    intro v' w' ho hgrow
    exact hK v' w' (ownsRow_mono ho hB) ((Below.refl _ _).grown hgrow hB (fun k hk => by cases hk))

set_option maxHeartbeats 2000000 in
set_option maxRecDepth 100000 in
/-- binary.AppendUvarint, onto a slice of either kind. -/
theorem appendUvarint_any (B n x : Nat) (hx : x < 18446744073709551616) (sv : Value) (X : List Value) (w : World) (hsrc : Src B w sv n X) (hBw : B ≤ w.heap.size) (hlim : n + 10 ≤ 140737488355328) :
    Calls Trym.prog 30 #[sv, .int .u64 x] w fun e w' => ∃ v', e = .returned v' ∧ w'.ownsRow B 5 1 v' (n + (Lib.uvarint x).length) (X ++ Lib.byteCells (Lib.uvarint x)) ∧ Below B w w' := by
  have hlen := Lib.uvarint_length64 hx
  go_enter Trym.func30, Trym.ntmps30
  go_wp2
  go_loopw [0, 1] (fun vb vx wr => ∃ (y : Nat) (pre : List UInt8), vx = .int .u64 y ∧ y ≤ x ∧ Lib.uvarint x = pre ++ Lib.uvarint y ∧ Src B wr vb (n + pre.length) (X ++ Lib.byteCells pre) ∧ Below B w wr)
    (fun _ vx _ => (intOf vx).toNat)
  case atStart => exact ⟨x, [], rfl, Nat.le_refl _, rfl, by simpa [Lib.byteCells] using hsrc, Below.refl _ _⟩
  case round =>
    obtain ⟨y, pre, rfl, hy, hsplit, hsrc1, hnx⟩ := hrel
    have hpl : pre.length + (Lib.uvarint y).length ≤ 10 := by
      have h2 := congrArg List.length hsplit
      rw [List.length_append] at h2
      omega
    have hyp := Lib.uvarint_pos y
    have hBr : B ≤ wr.heap.size := Nat.le_trans hBw hnx.size
    have HSplit : Hid (Lib.uvarint x = pre ++ Lib.uvarint y) := hsplit
    clear hsplit hsrc hlen
    by_cases h128 : 128 ≤ y
    · have hor : bits .or .u8 ((y : Int) % 256) 128 = ((y % 128 + 128 : Nat) : Int) := by
        rw [Lib.u8_or128_any _ (by omega) (by omega)]
        omega
      go_wp2_with (at_builtin; refine wpList_append_src _ rfl _ _ rfl B _ _ _ rfl (hsrc1.alloc hBr _) ?c5 ⟨wr.heap.size, 0, none⟩ 1 1 [Value.int .u8 ((y % 128 + 128 : Nat) : Int)] rfl rfl ?c1 ?c2 (by omega) ?c4 ?_)
      case c1 =>
        intro j u hj
        match j, hj with
        | 0, hj => simp at hj; subst hj; simp [Addr.add]
      case c2 => intro u hu; simp at hu; subst hu; rfl
      case c4 => omega
      case c5 => simp; omega
      intro v' w1 hown' hbel
      have hnx1 : Below B w w1 := (hnx.alloc hBr _).trans hbel
      clear hor
      go_wp2
      go_roundw
      case rel =>
        refine ⟨y / 128, pre ++ [(y % 128 + 128).toUInt8], by go_num, by omega, by rw [HSplit.out, Lib.uvarint_big h128]; simp, ?_, hnx1⟩
        have ec : ((y % 128 + 128 : Nat) : Int) = (y : Int) % 128 + 128 := by omega
        rw [Lib.byteCells_snoc pre (by omega), List.length_append, List.length_singleton, ← Nat.add_assoc, ec]
        exact .inl hown'
      case measure => simp [intOf]; omega
    · have hsm : Lib.uvarint y = [y.toUInt8] := Lib.uvarint_small (by omega)
      have HSM : Hid (Lib.uvarint y = [y.toUInt8]) := hsm
      clear hsm
      go_wp2_with (at_builtin; refine wpList_append_src _ rfl _ _ rfl B _ _ _ rfl (hsrc1.alloc hBr _) ?c5 ⟨wr.heap.size, 0, none⟩ 1 1 [Value.int .u8 (y : Int)] rfl rfl ?c1 ?c2 (by omega) ?c4 ?_)
      case c1 =>
        intro j u hj
        match j, hj with
        | 0, hj => simp at hj; subst hj; simp [Addr.add]
      case c2 => intro u hu; simp at hu; subst hu; rfl
      case c4 => omega
      case c5 => simp; omega
      intro v' w1 hown' hbel
      have hnx1 : Below B w w1 := (hnx.alloc hBr _).trans hbel
      go_wp2
      go_ret
      refine ⟨v', rfl, ?_, hnx1⟩
      rw [HSplit.out, HSM.out, Lib.byteCells_snoc pre (by omega), List.length_append, List.length_singleton, ← Nat.add_assoc]
      exact hown'

set_option maxHeartbeats 2000000 in
set_option maxRecDepth 100000 in
/-- binary.AppendVarint, onto a slice of either kind. -/
theorem appendVarint_any (B n : Nat) (x : Int) (h0 : -9223372036854775808 ≤ x) (h1 : x ≤ 9223372036854775807) (sv : Value) (X : List Value) (w : World) (hsrc : Src B w sv n X) (hBw : B ≤ w.heap.size) (hlim : n + 10 ≤ 140737488355328) :
    Calls Trym.prog 26 #[sv, .int .i64 x] w fun e w' => ∃ v', e = .returned v' ∧ w'.ownsRow B 5 1 v' (n + (Lib.uvarint (Lib.zigzag x)).length) (X ++ Lib.byteCells (Lib.uvarint (Lib.zigzag x))) ∧ Below B w w' := by
  have hU := appendUvarint_any B n (Lib.zigzag x) (Lib.zigzag_lt h0 h1) sv X w hsrc hBw hlim
  by_cases hneg : x < 0
  · rw [← Lib.zigzag_neg h0 hneg] at hU
    go_enter Trym.func26, Trym.ntmps26
    go_wp2_with (go_at_call 30; refine hU.mono ?_; rintro e w1 ⟨v', rfl, ho, hb⟩)
    go_wp2
    go_ret
    exact ⟨v', rfl, ho, hb⟩
  · rw [Lib.zigzag_nonneg (by omega)] at hU
    go_enter Trym.func26, Trym.ntmps26
    go_wp2_with (go_at_call 30; refine hU.mono ?_; rintro e w1 ⟨v', rfl, ho, hb⟩)
    go_wp2
    go_ret
    exact ⟨v', rfl, ho, hb⟩


theorem eqnil (w : World) (a : Option Addr) (n c n' c' : Nat) : (binOp .eql 27 (.slice a n c) (.slice none n' c')).run Trym.prog w = .ok (.bool a.isNone) w := Lib.run_eql_slice_nil w _ _ a n c n' c' Trym.underlying27

theorem ret_sl {g g' n c : Nat} (h : g = g') : Ending.returned (.slice (some ⟨g, 0, none⟩) n c) = .returned (.slice (some ⟨g', 0, none⟩) n c) := by rw [h]
theorem own_lt {w : World} {B n c g : Nat} {xs : List Value} (h : w.ownsRow B 5 1 (.slice (some ⟨g, 0, none⟩) n c) n xs) : g < w.heap.size := by
  rcases h.2 with ⟨h', _⟩ | ⟨g', cap', cur, h', _, hg, _⟩
  · simp at h'
  · simp only [Value.slice.injEq, Option.some.injEq, Addr.mk.injEq, and_true, true_and] at h'
    obtain ⟨rfl, rfl⟩ := h'
    exact (Array.getElem?_eq_some_iff.1 hg).1

set_option maxHeartbeats 1000000 in
theorem clone_nil (w : World) :
    Calls Trym.prog 11 #[.slice none 0 0] w fun e w' => e = .returned (.slice none 0 0) ∧ w' = w := by
  have q := eqnil
  go_enter Trym.func11, Trym.ntmps11
  go_wp2
  go_ret
  exact ⟨rfl, rfl⟩

set_option maxHeartbeats 1000000 in
theorem clone_some (b off M C : Nat) (S : List UInt8) (w : World) (hS : Lie w b off S) (hM : S.length = M) (hM' : M ≤ 1048576) (hb : 0 < M → b < w.heap.size) :
    Calls Trym.prog 11 #[.slice (some ⟨b, off, none⟩) M C] w fun e w' => e = .returned (.slice (some ⟨w.heap.size, 0, none⟩) M M) ∧ Below w.heap.size w w' ∧ w.heap.size < w'.heap.size ∧ Lie w' w.heap.size 0 S := by
  have q := eqnil
  obtain ⟨i0, hi, hz0, hz1, hz2⟩ := info_parts info5
  have HS : Hid (Lie w b off S) := hS
  have HM : Hid (S.length = M) := hM
  have HI0 : Hid (i0.bytes = 1) := hz2
  clear hS hM
  go_enter Trym.func11, Trym.ntmps11
  go_wp2_with (at_make; refine wpList_make_full _ rfl (.tmp 8) (.tmp 8) 27 rfl w.heap.size 5 i0 (.int .u8 0) 1 Trym.underlying27 hi hz0 hz1 .i64 .i64 _ _ M rfl rfl rfl rfl (by rw [hz2]; omega) (by unfold maxLen; omega) (Nat.le_refl _) ?_)
  intro w1 hown hgrow
  have hlt1 : w.heap.size < w1.heap.size := own_lt hown
  have hbel : Below w.heap.size w w1 := (Below.refl _ _).grown hgrow (Nat.le_refl _) (fun k hk => by cases hk)
  obtain ⟨H, hH⟩ : ∃ H, H = w.heap.size := ⟨_, rfl⟩
  rw [← hH] at hown hlt1 hbel hb ⊢
  have HH : Hid (H = w.heap.size) := hH
  have HOwn : Hid (w1.ownsRow H 5 1 (.slice (some ⟨H, 0, none⟩) M M) M (madeCells #[Value.int .u8 0] M).toList) := hown
  have HBel : Hid (Below H w w1) := hbel
  clear hH hown hbel hgrow hi hz0 hz1 hz2 HI0 q
  go_wp2
  go_loopw [4] (fun i wr => ∃ (k : Nat) (xs : List Value), k ≤ M ∧ i = .int .i64 k ∧ Hid (wr.ownsRow H 5 1 (.slice (some ⟨H, 0, none⟩) M M) M xs) ∧ Hid (Below H w wr) ∧ H < wr.heap.size ∧ Hid (∀ j, j < k → xs[j]? = some (.int .u8 (bat S j)))) (fun i _ => M - (intOf i).toNat)
  case atStart => exact ⟨0, _, Nat.zero_le _, rfl, HOwn, HBel, hlt1, fun j hj => absurd hj (Nat.not_lt_zero _)⟩
  case round =>
    obtain ⟨k, xs, hk, rfl, ho, hbl, hlt2, hxs⟩ := hrel
    clear HOwn HBel hlt1
    by_cases hkM : k < M
    · have hc : wr.cell? ⟨b, off + k, none⟩ = some (.int .u8 (bat S k)) := (hbl.out.cell (p := ⟨b, off + k, none⟩) (hb (by omega))).trans (HS.out k (by rw [HM.out]; exact hkM))
      have hl : xs.length = M := by have := ho.out.1; omega
      have hd : wr.cell? ⟨H, k, none⟩ = some (xs[k]'(by omega)) := by rw [ho.out.cellAt k (by omega), List.getElem?_eq_getElem (by omega)]
      have hf : wr.frozen? ⟨H, k, none⟩ = false := ho.out.frozenAt k
      go_wp2
      go_roundw
      case rel =>
        have st := ho.out.stored k (.int .u8 (bat S k))
        refine ⟨k + 1, xs.set k (.int .u8 (bat S k)), by omega, by go_num, st.1, hbl.out.setCell (p := ⟨H, k, none⟩) (Nat.le_refl _) _, ?_, ?_⟩
        · have := st.2.size; omega
        · intro j hj
          by_cases e : j = k
          · subst e; rw [List.getElem?_set_self (by omega)]
          · rw [List.getElem?_set_ne (by omega)]; exact hxs.out j (by omega)
      case measure => simp [intOf]; omega
    · obtain rfl : k = M := by omega
      go_wp2
      go_ret
      refine ⟨ret_sl HH.out, by rw [← HH.out]; exact hbl.out, by rw [← HH.out]; exact hlt2, fun j hj => ?_⟩
      rw [HM.out] at hj
      rw [← HH.out, Nat.zero_add, ho.out.cellAt j (by omega)]
      exact hxs.out j hj

set_option maxHeartbeats 1000000 in
/-- an empty slice that is not nil, wherever it points -/
theorem clone_zero (x : Addr) (C : Nat) (w : World) :
    Calls Trym.prog 11 #[.slice (some x) 0 C] w fun e w' => e = .returned (.slice (some ⟨w.heap.size, 0, none⟩) 0 0) ∧ Below w.heap.size w w' ∧ w.heap.size < w'.heap.size := by
  have q := eqnil
  obtain ⟨i0, hi, hz0, hz1, hz2⟩ := info_parts info5
  go_enter Trym.func11, Trym.ntmps11
  go_wp2_with (at_make; refine wpList_make_full _ rfl (.tmp 8) (.tmp 8) 27 rfl w.heap.size 5 i0 (.int .u8 0) 1 Trym.underlying27 hi hz0 hz1 .i64 .i64 _ _ 0 rfl rfl rfl rfl (by rw [hz2]; omega) (by unfold maxLen; omega) (Nat.le_refl _) ?_)
  intro w1 hown hgrow
  have hlt1 : w.heap.size < w1.heap.size := own_lt hown
  have hbel : Below w.heap.size w w1 := (Below.refl _ _).grown hgrow (Nat.le_refl _) (fun k hk => by cases hk)
  obtain ⟨H, hH⟩ : ∃ H, H = w.heap.size := ⟨_, rfl⟩
  rw [← hH] at hlt1 hbel ⊢
  have HH : Hid (H = w.heap.size) := hH
  clear hH hown hgrow hi hz0 hz1 hz2 q
  go_wp2
  go_loopw [4] (fun i wr => i = .int .i64 0 ∧ wr = w1) (fun _ _ => 0)
  case atStart => exact ⟨rfl, rfl⟩
  case round =>
    obtain ⟨rfl, rfl⟩ := hrel
    go_wp2
    go_ret
    exact ⟨ret_sl HH.out, by rw [← HH.out]; exact hbel, by rw [← HH.out]; exact hlt1⟩

theorem zigzag_m1 : Lib.zigzag (-1) = 1 := by unfold Lib.zigzag; simp
theorem zigzag_nat (n : Nat) : Lib.zigzag (n : Int) = 2 * n := by unfold Lib.zigzag; rw [if_pos (by omega)]; omega

/-- The record of a nil slice, of a slice of the bytes l. -/
def recOf (isnil : Bool) (l : List UInt8) : List UInt8 := if isnil = true then Lib.uvarint 1 else Lib.uvarint (2 * l.length) ++ l

set_option maxHeartbeats 1000000 in
theorem appendNullable_nil (B n : Nat) (sv : Value) (X : List Value) (w : World) (hsrc : Src B w sv n X) (hBw : B ≤ w.heap.size) (hlim : n + 10 ≤ 140737488355328) :
    Calls Trym.prog 22 #[sv, .slice none 0 0] w fun e w' => ∃ v', e = .returned v' ∧ w'.ownsRow B 5 1 v' (n + (Lib.uvarint 1).length) (X ++ Lib.byteCells (Lib.uvarint 1)) ∧ Below B w w' := by
  have hV := appendVarint_any B n (-1) (by omega) (by omega) sv X w hsrc hBw hlim
  rw [zigzag_m1] at hV
  have q := eqnil
  go_enter Trym.func22, Trym.ntmps22
  go_wp2_with fail
  refine hV.mono ?_
  rintro e w1 ⟨v', rfl, ho, hb⟩
  clear hV hsrc
  go_wp2
  go_ret
  exact ⟨v', rfl, ho, hb⟩

set_option maxHeartbeats 1000000 in
theorem appendNullable_some (B n : Nat) (sv : Value) (X : List Value) (b off M C : Nat) (S : List UInt8) (w : World) (hsrc : Src B w sv n X) (hBw : B ≤ w.heap.size) (hlim : n + 10 + M ≤ 140737488355328) (hS : Lie w b off S) (hM : S.length = M) (hbB : b < B) :
    Calls Trym.prog 22 #[sv, .slice (some ⟨b, off, none⟩) M C] w fun e w' => ∃ v', e = .returned v' ∧ w'.ownsRow B 5 1 v' (n + (Lib.uvarint (2 * M)).length + M) (X ++ (Lib.byteCells (Lib.uvarint (2 * M)) ++ Lib.byteCells S)) ∧ Below B w w' := by
  have hV := appendVarint_any B n (M : Int) (by omega) (by omega) sv X w hsrc hBw (by omega)
  rw [zigzag_nat] at hV
  have hl := Lib.uvarint_length64 (x := 2 * M) (by omega)
  have q := eqnil
  obtain ⟨i0, hi, hz0, hz1, hz2⟩ := info_parts info5
  have HV := hide hV
  have HS : Hid (Lie w b off S) := hS
  have HM : Hid (S.length = M) := hM
  clear hV hsrc hS hM
  go_enter Trym.func22, Trym.ntmps22
  go_wp2_with fail
  refine HV.out.mono ?_
  rintro e w1 ⟨v', rfl, ho, hb⟩
  clear HV
  have hB1 : B ≤ w1.heap.size := Nat.le_trans hBw hb.size
  have hcells : ∀ j u, (Lib.byteCells S)[j]? = some u → w1.cell? ((⟨b, off, none⟩ : Addr).add j) = some u := by
    intro j u hu
    have hj : j < S.length := by have := (List.getElem?_eq_some_iff.1 hu).1; rwa [byteCells_len] at this
    rw [byteCells_at S j hj] at hu
    rw [Addr.add_lit, ← hu]
    exact (hb.cell (p := ⟨b, off + j, none⟩) hbB).trans (HS.out j hj)
  go_wp2_with (at_builtin; refine wpList_append_own _ rfl (.tmp 12) (.tmp 13) 27 rfl B 5 i0 (.int .u8 0) 1 1 Trym.underlying27 hi hz0 hz1 hz2 rfl (by decide) _ _ _ rfl ho ⟨b, off, none⟩ M C (Lib.byteCells S) rfl (by rw [byteCells_len, HM.out]; omega) hcells (by intro u hu; unfold Lib.byteCells at hu; rw [List.mem_map] at hu; obtain ⟨c, _, rfl⟩ := hu; rfl) (by unfold maxLen; omega) (by omega) hB1 ?_)
  intro v2 w2 ho2 hg2 _
  have hb2 : Below B w w2 := hb.grown hg2 hB1 (fun k hk => (ho.lt k hk).1)
  go_wp2
  go_ret
  exact ⟨v2, rfl, ho2, hb2⟩

/-! ### the clones as the law holds them -/
/-- A clone: nil; or a full row at the head of a block below B that holds the bytes l. -/
def Held (B : Nat) (w : World) (ao : Option Addr) (l : List UInt8) : Prop := (ao = none ∧ l = []) ∨ ∃ b, ao = some ⟨b, 0, none⟩ ∧ b < B ∧ Lie w b 0 l

theorem Lie.below {B : Nat} {w w' : World} {g o : Nat} {l : List UInt8} (h : Lie w g o l) (hb : Below B w w') (hg : g < B) : Lie w' g o l := fun j hj => (hb.cell (p := ⟨g, o + j, none⟩) hg).trans (h j hj)

theorem Held.below {B : Nat} {w w' : World} {ao : Option Addr} {l : List UInt8} (h : Held B w ao l) (hb : Below B w w') : Held B w' ao l := by
  rcases h with h | ⟨b, h1, h2, h3⟩
  · exact .inl h
  · exact .inr ⟨b, h1, h2, h3.below hb h2⟩
theorem Held.mono {B B' : Nat} {w : World} {ao : Option Addr} {l : List UInt8} (h : Held B w ao l) (hb : B ≤ B') : Held B' w ao l := by
  rcases h with h | ⟨b, h1, h2, h3⟩
  · exact .inl h
  · exact .inr ⟨b, h1, by omega, h3⟩

theorem Held.src {B : Nat} {w : World} {ao : Option Addr} {l : List UInt8} (h : Held B w ao l) : Src B w (.slice ao l.length l.length) l.length (Lib.byteCells l) := by
  refine .inr ⟨ao, rfl, ?_, byteCells_len l, ?_⟩
  · intro e
    rcases h with ⟨_, rfl⟩ | ⟨b, h1, _, _⟩
    · rfl
    · rw [h1] at e; cases e
  · intro a ha
    rcases h with ⟨h1, _⟩ | ⟨b, h1, h2, h3⟩
    · rw [h1] at ha; cases ha
    · rw [h1] at ha
      cases ha
      refine ⟨h2, fun j u hu => ?_⟩
      have hj : j < l.length := by have := (List.getElem?_eq_some_iff.1 hu).1; rwa [byteCells_len] at this
      rw [byteCells_at l j hj] at hu
      rw [Addr.add_lit, ← hu]
      exact h3 j hj

theorem appendNullable_any (B n : Nat) (sv : Value) (X : List Value) (ao : Option Addr) (l : List UInt8) (w : World) (hsrc : Src B w sv n X) (hBw : B ≤ w.heap.size) (hlim : n + 10 + l.length ≤ 140737488355328) (hh : Held B w ao l) :
    Calls Trym.prog 22 #[sv, .slice ao l.length l.length] w fun e w' => ∃ v', e = .returned v' ∧ w'.ownsRow B 5 1 v' (n + (recOf ao.isNone l).length) (X ++ Lib.byteCells (recOf ao.isNone l)) ∧ Below B w w' := by
  rcases hh with ⟨rfl, rfl⟩ | ⟨b, rfl, h2, h3⟩
  · exact appendNullable_nil B n sv X w hsrc hBw (by omega)
  · have h := appendNullable_some B n sv X b 0 l.length l.length l w hsrc hBw hlim h3 rfl h2
    have e : recOf (some (⟨b, 0, none⟩ : Addr)).isNone l = Lib.uvarint (2 * l.length) ++ l := rfl
    rw [e, Lib.byteCells_append, List.length_append, ← Nat.add_assoc]
    exact h

set_option maxHeartbeats 1000000 in
theorem zzappend_any (B n : Nat) (sv : Value) (X : List Value) (ao : Option Addr) (l : List UInt8) (w : World) (hsrc : Src B w sv n X) (hBw : B ≤ w.heap.size) (hlim : n + 10 + l.length ≤ 140737488355328) (hh : Held B w ao l) :
    Calls Trym.prog 12 #[sv, .slice ao l.length l.length] w fun e w' => ∃ v', e = .returned v' ∧ w'.ownsRow B 5 1 v' (n + (recOf ao.isNone l).length) (X ++ Lib.byteCells (recOf ao.isNone l)) ∧ Below B w w' := by
  have HA := hide (appendNullable_any B n sv X ao l w hsrc hBw hlim hh)
  clear hsrc hh
  go_enter Trym.func12, Trym.ntmps12
  go_wp2_with fail
  refine HA.out.mono ?_
  rintro e w1 ⟨v', rfl, ho, hb⟩
  clear HA
  have HO := hide ho
  clear ho
  go_wp2
  go_ret
  exact ⟨v', rfl, HO.out, hb⟩

/-! ### the arguments as they came in -/
/-- What is known of a slice of bytes that came in: nil; or its len elements are the bytes l. -/
def Came8 (w : World) (a : Option Addr) (len cap : Nat) (l : List UInt8) : Prop :=
  l.length = len ∧ ((a = none ∧ len = 0 ∧ cap = 0) ∨ ∃ x, a = some x ∧ (0 < len → ∃ b off, x = ⟨b, off, none⟩ ∧ b < w.heap.size ∧ Lie w b off l))

theorem came8_of {w : World} {a : Option Addr} {len cap : Nat} {zs : List Int}
    (h : (a = none ∧ len = 0 ∧ cap = 0 ∧ zs = []) ∨
      ∃ x, a = some x ∧ len ≤ cap ∧ cap ≤ maxLen ∧ zs.length = cap ∧ (∀ i, i < zs.length → w.cell? (x.add i) = some (.int .u8 (zs.getD i 0))) ∧ ∀ n ∈ zs, (Lit.int .u8 n).wf = true) :
    ∃ l, Came8 w a len cap l := by
  rcases h with ⟨rfl, rfl, rfl, rfl⟩ | ⟨x, rfl, hl, _, hz, hc, hw⟩
  · exact ⟨[], rfl, .inl ⟨rfl, rfl, rfl⟩⟩
  · refine ⟨(zs.take len).map fun n => n.toNat.toUInt8, by rw [List.length_map, List.length_take]; omega, .inr ⟨x, rfl, fun hpos => ?_⟩⟩
    obtain ⟨b, off, spot⟩ := x
    have c0 := hc 0 (by omega)
    have hsp : spot = none := by simpa [Addr.add] using World.cell?_spot c0
    subst hsp
    refine ⟨b, off, rfl, by simpa [Addr.add] using World.block_lt_of_cell? _ _ c0, fun j hj => ?_⟩
    rw [List.length_map, List.length_take] at hj
    have hj2 : j < zs.length := by omega
    have c := hc j hj2
    rw [Addr.add_lit] at c
    rw [c]
    have hb := hw _ (List.getElem_mem hj2)
    have hb2 : 0 ≤ zs[j] ∧ zs[j] ≤ 255 := by
      simp [Lit.wf, IntKind.min, IntKind.max, IntKind.signed, IntKind.bits] at hb
      omega
    have e : bat ((zs.take len).map fun n => n.toNat.toUInt8) j = zs[j] := by
      unfold bat
      rw [List.getD_eq_getElem?_getD, List.getElem?_map, List.getElem?_take, if_pos (by omega), List.getElem?_eq_getElem hj2]
      show ((zs[j].toNat.toUInt8).toNat : Int) = zs[j]
      rw [Lib.toUInt8_toNat (by omega)]
      omega
    rw [e, List.getD_eq_getElem?_getD, List.getElem?_eq_getElem hj2]
    rfl

theorem Came8.below {w w' : World} {a : Option Addr} {len cap : Nat} {l : List UInt8} (h : Came8 w a len cap l) (hb : Below w.heap.size w w') : Came8 w' a len cap l := by
  obtain ⟨h1, h2 | ⟨x, hx, h3⟩⟩ := h
  · exact ⟨h1, .inl h2⟩
  · refine ⟨h1, .inr ⟨x, hx, fun hp => ?_⟩⟩
    obtain ⟨b, off, e, hlt, hl⟩ := h3 hp
    exact ⟨b, off, e, Nat.lt_of_lt_of_le hlt hb.size, hl.below hb hlt⟩

theorem clone_any (w : World) (a : Option Addr) (len cap : Nat) (l : List UInt8) (h : Came8 w a len cap l) (hM : len ≤ 1048576) :
    Calls Trym.prog 11 #[.slice a len cap] w fun e w' => ∃ ao, e = .returned (.slice ao l.length l.length) ∧ ao.isNone = a.isNone ∧ Below w.heap.size w w' ∧ Held w'.heap.size w' ao l := by
  obtain ⟨h1, ⟨rfl, rfl, rfl⟩ | ⟨x, rfl, h3⟩⟩ := h
  · refine (clone_nil w).mono ?_
    rintro e w' ⟨rfl, rfl⟩
    have e0 : l = [] := List.eq_nil_of_length_eq_zero h1
    subst e0
    exact ⟨none, rfl, rfl, Below.refl _ _, .inl ⟨rfl, rfl⟩⟩
  · rcases Nat.eq_zero_or_pos len with h0 | hp
    · subst h0
      refine (clone_zero x cap w).mono ?_
      rintro e w' ⟨rfl, hb, hlt⟩
      have e0 : l = [] := List.eq_nil_of_length_eq_zero h1
      subst e0
      exact ⟨_, rfl, rfl, hb, .inr ⟨_, rfl, hlt, fun j hj => absurd hj (Nat.not_lt_zero _)⟩⟩
    · obtain ⟨b, off, rfl, hlt, hl⟩ := h3 hp
      subst h1
      refine (clone_some b off l.length cap l w hl rfl hM (fun _ => hlt)).mono ?_
      rintro e w' ⟨rfl, hb, hlt', hl'⟩
      exact ⟨_, rfl, rfl, hb, .inr ⟨_, rfl, hlt', hl'⟩⟩

/-- What an owned row of bytes, not empty, is as a value. -/
theorem own_value {w : World} {B n : Nat} {v : Value} {O : List UInt8} (h : w.ownsRow B 5 1 v n (Lib.byteCells O)) (hn : 0 < n) : ∃ g c, v = .slice (some ⟨g, 0, none⟩) n c ∧ O.length = n ∧ Lie w g 0 O := by
  have hlen : O.length = n := by have := h.1; rw [byteCells_len] at this; omega
  have h0 := h
  rcases h.2 with ⟨_, h'⟩ | ⟨g, cap, cur, hv, _⟩
  · omega
  · subst hv
    refine ⟨g, cap, rfl, hlen, fun j hj => ?_⟩
    rw [Nat.zero_add, h0.cellAt j (by omega)]
    exact byteCells_at O j hj

end Go.Proofs.Qxb6604652aMods
