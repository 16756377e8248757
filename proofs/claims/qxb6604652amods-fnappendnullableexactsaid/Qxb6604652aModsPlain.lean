/-
  SEAT b6604652aM: THE PLAIN LAW: byte lists, the varint's bytes: no Go in sight.
-/
import Derived.Lib.VarintMem
import Derived.Lib.Zigzag
namespace Go.Proofs.Qxb6604652aMods
open Go

/-- byte j of l, as a number -/
def bat (l : List UInt8) (j : Nat) : Int := ((l.getD j 0).toNat : Int)

theorem bat_range (l : List UInt8) (j : Nat) : 0 ≤ bat l j ∧ bat l j ≤ 255 := by
  unfold bat
  have := (l.getD j 0).toNat_lt
  omega
theorem bat_left (x y : List UInt8) (j : Nat) (h : j < x.length) : bat (x ++ y) j = bat x j := by
  unfold bat
  rw [List.getD_eq_getElem?_getD, List.getD_eq_getElem?_getD, List.getElem?_append_left h]
theorem bat_right (x y : List UInt8) (j : Nat) : bat (x ++ y) (x.length + j) = bat y j := by
  unfold bat
  rw [List.getD_eq_getElem?_getD, List.getD_eq_getElem?_getD, List.getElem?_append_right (by omega),
    show x.length + j - x.length = j from by omega]
theorem bat_cons_zero (a : UInt8) (l : List UInt8) : bat (a :: l) 0 = (a.toNat : Int) := rfl
theorem bat_cons_succ (a : UInt8) (l : List UInt8) (j : Nat) : bat (a :: l) (j + 1) = bat l j := rfl
theorem byteCells_at (l : List UInt8) (j : Nat) (h : j < l.length) : (Lib.byteCells l)[j]? = some (.int .u8 (bat l j)) := by
  unfold Lib.byteCells bat
  rw [List.getElem?_map, List.getElem?_eq_getElem h, List.getD_eq_getElem?_getD, List.getElem?_eq_getElem h]
  rfl
theorem byteCells_len (l : List UInt8) : (Lib.byteCells l).length = l.length := by
  unfold Lib.byteCells; simp

/-! The varint read back: a of u is read, y is left, m is the next group's weight. -/
theorem uv_small0 {y : Nat} (h : y < 128) : bat (Lib.uvarint y) 0 = (y : Int) := by
  rw [Lib.uvarint_small h, bat_cons_zero, Lib.toUInt8_toNat (by omega)]
theorem uv_big0 {y : Nat} (h : 128 ≤ y) : bat (Lib.uvarint y) 0 = ((y % 128 : Nat) : Int) + 128 := by
  rw [Lib.uvarint_big h, bat_cons_zero, Lib.toUInt8_toNat (by omega)]
  omega
theorem uv_bigS {y : Nat} (h : 128 ≤ y) (j : Nat) : bat (Lib.uvarint y) (j + 1) = bat (Lib.uvarint (y / 128)) j := by
  rw [Lib.uvarint_big h, bat_cons_succ]
theorem uv_small_len {y : Nat} (h : y < 128) : (Lib.uvarint y).length = 1 := by
  rw [Lib.uvarint_small h]; rfl
theorem uv_big_len {y : Nat} (h : 128 ≤ y) : (Lib.uvarint y).length = (Lib.uvarint (y / 128)).length + 1 := by
  rw [Lib.uvarint_big h]; rfl
theorem uv_step {a m y u : Nat} (h : a + y * m = u) : (a + (y % 128) * m) + (y / 128) * (m * 128) = u := by
  have e : y = (y / 128) * 128 + y % 128 := by omega
  have e2 : y * m = ((y / 128) * 128 + y % 128) * m := congrArg (· * m) e
  have e3 : (y / 128) * (m * 128) = (y / 128) * 128 * m := by rw [Nat.mul_comm m 128, Nat.mul_assoc]
  rw [Nat.add_mul] at e2
  omega
theorem uv_part {a m y u : Nat} (h : a + y * m = u) : (y % 128) * m ≤ u := by
  have h1 : (y % 128) * m ≤ y * m := Nat.mul_le_mul_right _ (Nat.mod_le _ _)
  omega
theorem uv_weight {a m y u : Nat} (h : a + y * m = u) (hy : 128 ≤ y) : m * 128 ≤ u := by
  have h1 : 128 * m ≤ y * m := Nat.mul_le_mul_right _ hy
  omega

/-- A number below 2^21 takes at most three bytes; below 2^22 at most four. -/
theorem uv_len4 {u : Nat} (h : u ≤ 4194304) : (Lib.uvarint u).length ≤ 4 := Lib.uvarint_length 3 u (Nat.lt_of_le_of_lt h (by decide))

/-- The bytes O lie in block g from cell o on. -/
def Lie (w : World) (g o : Nat) (O : List UInt8) : Prop := ∀ j, j < O.length → w.cell? ⟨g, o + j, none⟩ = some (.int .u8 (bat O j))

end Go.Proofs.Qxb6604652aMods
