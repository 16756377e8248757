/-
  PROOF OF 'Rows.FnAppendNullableExactSaid': the frame is the guide's own (proof-skeleton.mjs), the walk is filled in.
-/
import Derived.Test.Qxb6604652aModsRows
import Derived.Test.Qxb6604652aModsJoins
import Derived.WalkSmall
import Derived.WalkKit
import Derived.ProofKit
import Derived.OpenShut
import Derived.ShutString
import Derived.ChangeOld
import Derived.Below
namespace Go.Proofs.Qxb6604652aMods.fnAppendNullableExact
open Go.ChangeShapes Go.WideShapes Go.ChangeAt Go.RowKit
open Go.ChangeMaps (open_string shut_string)
set_option linter.unusedVariables false

theorem own : ownKnob Trym.prog.godebug = none := by kernel_rfl
theorem laidOut : laidOutB Trym.prog = true := by kernel_rfl

/-- WHAT THE WALK IS TOLD OF A SLICE OF INTEGERS THAT CAME IN: it is nil; or it leads to a row of 'cap' cells, the numbers 'zs' (the first 'len' are its elements, the rest its spare room), each fitting its kind. -/
def IsRow (k : IntKind) (w : World) (a : Option Addr) (len cap : Nat) (zs : List Int) : Prop :=
  (a = none ∧ len = 0 ∧ cap = 0 ∧ zs = []) ∨
  ∃ x, a = some x ∧ len ≤ cap ∧ cap ≤ maxLen ∧ zs.length = cap ∧ (∀ i, i < zs.length → w.cell? (x.add i) = some (.int k (zs.getD i 0))) ∧ ∀ n ∈ zs, (Lit.int k n).wf = true

theorem isRow_le {k : IntKind} {w : World} {a : Option Addr} {len cap : Nat} {zs : List Int} (h : IsRow k w a len cap zs) : len ≤ 9223372036854775807 := by
  rcases h with ⟨_, h1, _, _⟩ | ⟨x, _, h1, h2, _⟩
  · omega
  · unfold maxLen at h2; omega

set_option maxHeartbeats 2000000 in
set_option maxRecDepth 100000 in
/-- The walk inside the law's bound. -/
theorem exact_in (a0 : Option Addr) (len0 cap0 : Nat) (D : List UInt8) (a1 : Option Addr) (len1 cap1 : Nat) (S : List UInt8) (w : World) (hD : Came8 w a0 len0 cap0 D) (hS : Came8 w a1 len1 cap1 S) (hs : len0 + len1 ≤ 1048576) :
    Calls Trym.prog 5 #[.slice a0 len0 cap0, .slice a1 len1 cap1] w fun e w' => e = .returned (.bool true) ∧ Below w.heap.size w w' := by
  have HD := hide hD
  have HS := hide hS
  have hDl : D.length ≤ 1048576 := by have := hD.1; omega
  have hSl : S.length ≤ 1048576 := by have := hS.1; omega
  clear hD hS
  have q := eqnil
  go_enter Trym.func5, Trym.ntmps5
  go_wp2_with fail
  refine (zz10_yes a0 len0 cap0 a1 len1 cap1 _ hs).mono ?_
  rintro e w' ⟨rfl, rfl⟩
  go_wp2_with fail
  refine (clone_any _ a0 len0 cap0 D HD.out (by omega)).mono ?_
  rintro e wA ⟨ao, rfl, hna, hbA, heldA⟩
  have HbA := hide hbA
  have HeldA := hide heldA
  clear hbA heldA hna
  go_wp2_with fail
  refine (clone_any _ a1 len1 cap1 S (HS.out.below HbA.out) (by omega)).mono ?_
  rintro e wB ⟨bo, rfl, hnb, hbB, heldB⟩
  have HbB := hide (HbA.out.trans (hbB.mono HbA.out.size))
  have HeldA2 := hide ((HeldA.out.below hbB).mono hbB.size)
  have HeldB := hide heldB
  clear HbA hbB HeldA heldB hnb HD HS
  go_wp2_with fail
  refine (zzappend_any wB.heap.size D.length _ (Lib.byteCells D) bo S wB HeldA2.out.src (Nat.le_refl _) (by omega) HeldB.out).mono ?_
  rintro e wC ⟨v, rfl, hown, hbC⟩
  obtain ⟨isnil, hin⟩ : ∃ isnil, isnil = bo.isNone := ⟨_, rfl⟩
  rw [← hin] at hown
  have hin' : bo.isNone = isnil := hin.symm
  clear hin
  have hh4 := hdLen_le isnil S hSl
  rw [← Lib.byteCells_append] at hown
  obtain ⟨O, hO⟩ : ∃ O, O = D ++ recOf isnil S := ⟨_, rfl⟩
  obtain ⟨r, hr⟩ : ∃ r, r = (recOf isnil S).length := ⟨_, rfl⟩
  have hr1 : r ≤ 1048580 ∧ 1 ≤ r := by
    rw [hr]; cases isnil
    · rw [rec_some_len]; omega
    · rw [rec_nil_len]; omega
  rw [← hO, ← hr] at hown
  obtain ⟨g, c, rfl, hOl, hlie⟩ := own_value hown (by omega)
  have heq1 : ∀ j, j < D.length → bat O j = bat D j := fun j hj => by rw [hO]; exact bat_left _ _ _ hj
  have heq2 : ∀ j, j < r → bat O (D.length + j) = bat (recOf isnil S) j := fun j _ => by rw [hO]; exact bat_right _ _ _
  have HLie := hide hlie
  have HOl := hide hOl
  have HA := hide (HeldA2.out.below hbC)
  have HB := hide (HeldB.out.below hbC)
  have HEnd := hide (HbB.out.trans (hbC.mono HbB.out.size))
  have HE1 := hide heq1
  have HE2 := hide heq2
  have HR := hide hr
  clear hown hbC hlie hOl HeldA2 HeldB HbB heq1 heq2 hr hO
  go_wp2_with fail
  refine (sameAt_held0 g (D.length + r) c _ O ao D wC HLie.out HOl.out HA.out (by omega) (by omega) HE1.out).mono ?_
  rintro e w1 ⟨rfl, q1, rfl⟩
  go_wp2_with fail
  refine (readRecord_any g (D.length + r) c O D.length isnil S (wC.drewN q1) HLie.out HOl.out (by omega) hSl (by have := HR.out; omega) (fun j hj => HE2.out j (by have := HR.out; omega))).mono ?_
  rintro e w2 ⟨rfl, rfl⟩
  rw [← HR.out]
  have q := eqnil
  cases isnil with
  | true =>
    go_wp2
    go_ret
    exact ⟨rfl, below_drewN HEnd.out _⟩
  | false =>
    have hrs : r = hdLen false S + S.length := HR.out.trans (rec_some_len S)
    obtain ⟨h, hh⟩ : ∃ h, h = hdLen false S := ⟨_, rfl⟩
    rw [← hh] at hrs hh4 ⊢
    have heq3 : ∀ j, j < S.length → bat O (D.length + h + j) = bat S j := fun j hj => by
      rw [Nat.add_assoc, HE2.out (h + j) (by omega), hh]; exact rec_body S j
    have HE3 := hide heq3
    have HH := hide hh
    have hrs1 : h + S.length = r := hrs.symm
    clear heq3 hh hrs
    go_wp2_with fail
    refine (sameAt_at g (D.length + r) c _ (D.length + h) O bo S (wC.drewN q1) _ (by omega) HLie.out HOl.out HB.out (by omega) (by omega) HE3.out).mono ?_
    rintro e w1 ⟨rfl, q2, rfl⟩
    go_wp2
    go_ret
    exact ⟨rfl, below_drewN HEnd.out _⟩

/-! ### STEP 1: THE WALK: the Go text returns true, AND WRITES NOTHING THAT WAS THERE: 'Below w.heap.size w w'' (Derived/Below.lean: '.refl', '.alloc', '.drew', '.setCell' at a new block, '.trans'). Open each 'IsRow' by 'rcases' AHEAD of 'go_enter'; part every test ahead of the walk. -/
theorem walk (a0 : Option Addr) (len0 cap0 : Nat) (z0 : List Int) (a1 : Option Addr) (len1 cap1 : Nat) (z1 : List Int) (w : World) (w0 : IsRow .u8 w a0 len0 cap0 z0) (w1 : IsRow .u8 w a1 len1 cap1 z1) :
    Calls Trym.prog 5 #[.slice a0 len0 cap0, .slice a1 len1 cap1] w fun e w' => e = .returned (.bool true) ∧ Below w.heap.size w w' := by
  have l0 := isRow_le w0
  have l1 := isRow_le w1
  obtain ⟨D, hD⟩ := came8_of w0
  obtain ⟨S, hS⟩ := came8_of w1
  by_cases hs : len0 + len1 ≤ 1048576
  · exact exact_in a0 len0 cap0 D a1 len1 cap1 S w hD hS hs
  · clear hD hS w0 w1
    go_enter Trym.func5, Trym.ntmps5
    go_wp2_with fail
    refine (zz10_no a0 len0 cap0 a1 len1 cap1 _ hs l0 l1).mono ?_
    rintro e w' ⟨rfl, rfl⟩
    go_wp2
    go_ret
    exact ⟨rfl, Below.refl _ _⟩

/-! ### THE ROW's STEP: WRITTEN OUT: LEAVE IT -/
set_option maxRecDepth 100000 in
theorem lifted (os : Os) (started : os.Started) (H : Type) (enc : TypeId × Value → H) :
    ReturnsInHanded {} Trym.checked os 5 .any (Rows.fnAppendNullableExactSpec.pre6 enc Trym.prog Trym.f5 Rows.fnAppendNullableExactRow.domain false) (Rows.fnAppendNullableExactSpec.post enc Trym.prog Trym.f5 false true false false) := by
  refine returnsInHanded_of_change (C := Trym.checked) own started (by kernel_rfl) Trym.func5
    (ChangeSpec.witness6 (enc := enc) (C := Trym.checked) false ⟨#[], #[.slice none 0 0, .slice none 0 0], []⟩ 8 (by kernel_rfl) (by kernel_rfl) (by kernel_rfl) (by kernel_rfl)) ?_
  intro W base args ds gs before hval0 hW hcnd _
  have hval : ∀ (j : Nat) t v, Trym.f5.params[j]? = some t → args[j]? = some v → Value.okWide Trym.prog W .any base t v := hval0
  have hW' := hW
  obtain ⟨p, q, hA0, hV, rfl, hfz, hnd⟩ := hW
  have hA : DataW.TrodAll enc Trym.prog W 0 (fun _ => true) true Trym.f5.params.toList args.toList ds p := hA0
  rw [Trym.params5] at hA hval
  obtain ⟨v0, vs0, d0, ds0, p0, q0, hargs, rfl, rfl, h0, r0⟩ := trodAll_cons hA
  obtain ⟨v1, vs1, d1, ds1, p1, q1, rfl, rfl, rfl, h1, r1⟩ := trodAll_cons r0
  obtain ⟨rfl, rfl, rfl⟩ := trodAll_nil r1
  obtain rfl : args = #[v0, v1] := by cases args; simp_all
  obtain ⟨rfl, rfl⟩ := trodVars_none hV
  obtain ⟨a0, len0, cap0, rfl⟩ := okWide_slice Trym.underlying27 (hval 0 27 v0 rfl rfl)
  have k0 := h0
  have lt0 : ∀ x ∈ p0, x.block < W.heap.size := by obtain ⟨m, hm⟩ := k0; exact DataW.trod_lt m _ _ _ hm
  obtain ⟨z0, w0⟩ : ∃ zs, IsRow .u8 W a0 len0 cap0 zs := by
    obtain ⟨fuel, hf⟩ := h0
    rcases open_ints Trym.underlying27 Trym.underlying5 (by kernel_rfl) hf with ⟨hcs, _⟩ | ⟨x, l, c, zs, hcs, _, hl, hm, hz, _, hcell, hwz⟩
    · simp [Value.cells] at hcs
      obtain ⟨rfl, rfl, rfl⟩ := hcs
      exact ⟨[], .inl ⟨rfl, rfl, rfl, rfl⟩⟩
    · simp [Value.cells] at hcs
      obtain ⟨rfl, rfl, rfl⟩ := hcs
      exact ⟨zs, .inr ⟨_, rfl, hl, hm, by simpa using hz, hcell, hwz⟩⟩
  obtain ⟨a1, len1, cap1, rfl⟩ := okWide_slice Trym.underlying27 (hval 1 27 v1 rfl rfl)
  have k1 := h1
  have lt1 : ∀ x ∈ p1, x.block < W.heap.size := by obtain ⟨m, hm⟩ := k1; exact DataW.trod_lt m _ _ _ hm
  obtain ⟨z1, w1⟩ : ∃ zs, IsRow .u8 W a1 len1 cap1 zs := by
    obtain ⟨fuel, hf⟩ := h1
    rcases open_ints Trym.underlying27 Trym.underlying5 (by kernel_rfl) hf with ⟨hcs, _⟩ | ⟨x, l, c, zs, hcs, _, hl, hm, hz, _, hcell, hwz⟩
    · simp [Value.cells] at hcs
      obtain ⟨rfl, rfl, rfl⟩ := hcs
      exact ⟨[], .inl ⟨rfl, rfl, rfl, rfl⟩⟩
    · simp [Value.cells] at hcs
      obtain ⟨rfl, rfl, rfl⟩ := hcs
      exact ⟨zs, .inr ⟨_, rfl, hl, hm, by simpa using hz, hcell, hwz⟩⟩
  clear hA0 hval0
  refine (walk a0 len0 cap0 z0 a1 len1 cap1 z1 W w0 w1).mono fun e W' ⟨he, bel⟩ => ?_
  subst he
  exact ⟨_, rfl, _, _, _, [], _, [], hW', trodAll_mk1 (shut_bool Trym.underlying4 _), (trodAll_cons_mk (Below.trod laidOut (by kernel_rfl) (of_decide_eq_true (by kernel_rfl)) k0 bel lt0) (trodAll_cons_mk (Below.trod laidOut (by kernel_rfl) (of_decide_eq_true (by kernel_rfl)) k1 bel lt1) trodAll_mk0)), rfl, bel.frame _, fun h => by cases h⟩

theorem over : Rows.fnAppendNullableExactRow.holds Trym.pinned (OpenSpec.ofChange Rows.fnAppendNullableExactSpec) :=
  OpenClaim.holds_of_wide 5 Trym.f5 rfl rfl rfl rfl rfl rfl rfl ⟨rfl, rfl, rfl, rfl, rfl⟩ rfl rfl rfl rfl rfl (by kernel_rfl) Trym.func5 (by kernel_rfl)
    (of_decide_eq_true (by kernel_rfl)) (by unfold Func.isWrapper; first | (rw [if_pos (by decide +kernel)]; kernel_rfl) | (rw [if_neg (by decide +kernel)]; exact ⟨rfl, rfl⟩))
    (fun os started H enc _ => lifted os started H enc)

/-- ████ THE STATEMENT ████ -/
theorem proved : Rows.FnAppendNullableExactSaid := over
#print axioms proved
end Go.Proofs.Qxb6604652aMods.fnAppendNullableExact
