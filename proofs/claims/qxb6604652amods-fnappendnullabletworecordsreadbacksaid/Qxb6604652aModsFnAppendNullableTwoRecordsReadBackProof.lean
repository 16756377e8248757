/-
  PROOF OF 'Rows.FnAppendNullableTwoRecordsReadBackSaid': the frame is the guide's own (proof-skeleton.mjs), the walk is filled in.
-/
import Derived.Test.Qxb6604652aModsRows
import Derived.Test.Qxb6604652aModsJoins
import Derived.WalkSmall
import Derived.WalkKit
import Derived.ProofKit
import Derived.OpenShut
import Derived.ShutString
import Derived.ChangeOld
import Derived.Below
namespace Go.Proofs.Qxb6604652aMods.fnAppendNullableTwoRecordsReadBack
open Go.ChangeShapes Go.WideShapes Go.ChangeAt Go.RowKit
open Go.ChangeMaps (open_string shut_string)
set_option linter.unusedVariables false

theorem own : ownKnob Trym.prog.godebug = none := by kernel_rfl
theorem laidOut : laidOutB Trym.prog = true := by kernel_rfl

/-- WHAT THE WALK IS TOLD OF A SLICE OF INTEGERS THAT CAME IN: it is nil; or it leads to a row of 'cap' cells, the numbers 'zs' (the first 'len' are its elements, the rest its spare room), each fitting its kind. -/
def IsRow (k : IntKind) (w : World) (a : Option Addr) (len cap : Nat) (zs : List Int) : Prop :=
  (a = none ∧ len = 0 ∧ cap = 0 ∧ zs = []) ∨
  ∃ x, a = some x ∧ len ≤ cap ∧ cap ≤ maxLen ∧ zs.length = cap ∧ (∀ i, i < zs.length → w.cell? (x.add i) = some (.int k (zs.getD i 0))) ∧ ∀ n ∈ zs, (Lit.int k n).wf = true

theorem isRow_le {k : IntKind} {w : World} {a : Option Addr} {len cap : Nat} {zs : List Int} (h : IsRow k w a len cap zs) : len ≤ 9223372036854775807 := by
  rcases h with ⟨_, h1, _, _⟩ | ⟨x, _, h1, h2, _⟩
  · omega
  · unfold maxLen at h2; omega

set_option maxHeartbeats 4000000 in
set_option maxRecDepth 100000 in
/-- The walk inside the law's bound. -/
theorem two_in (a0 : Option Addr) (len0 cap0 : Nat) (D : List UInt8) (a1 : Option Addr) (len1 cap1 : Nat) (S : List UInt8) (a2 : Option Addr) (len2 cap2 : Nat) (T : List UInt8) (w : World) (hD : Came8 w a0 len0 cap0 D) (hS : Came8 w a1 len1 cap1 S) (hT : Came8 w a2 len2 cap2 T) (hs : len0 + len1 + len2 ≤ 1048576) :
    Calls Trym.prog 6 #[.slice a0 len0 cap0, .slice a1 len1 cap1, .slice a2 len2 cap2] w fun e w' => e = .returned (.bool true) ∧ Below w.heap.size w w' := by
  have HD := hide hD
  have HS := hide hS
  have HT := hide hT
  have hDl : D.length ≤ 1048576 := by have := hD.1; omega
  have hSl : S.length ≤ 1048576 := by have := hS.1; omega
  have hTl : T.length ≤ 1048576 := by have := hT.1; omega
  clear hD hS hT
  go_enter Trym.func6, Trym.ntmps6
  go_wp2_with fail
  refine (zz15_yes a0 len0 cap0 a1 len1 cap1 a2 len2 cap2 _ hs).mono ?_
  rintro e w' ⟨rfl, rfl⟩
  go_wp2_with fail
  refine (clone_any _ a0 len0 cap0 D HD.out (by omega)).mono ?_
  rintro e wA ⟨ao, rfl, hna, hbA, heldA⟩
  have HbA := hide hbA
  have HeldA := hide heldA
  clear hbA heldA hna
  go_wp2_with fail
  refine (clone_any _ a1 len1 cap1 S (HS.out.below HbA.out) (by omega)).mono ?_
  rintro e wB ⟨so, rfl, hnb, hbB, heldB⟩
  have HbB := hide (HbA.out.trans (hbB.mono HbA.out.size))
  have HeldA2 := hide ((HeldA.out.below hbB).mono hbB.size)
  have HeldB := hide heldB
  clear HbA hbB HeldA heldB hnb
  go_wp2_with fail
  refine (clone_any _ a2 len2 cap2 T (HT.out.below HbB.out) (by omega)).mono ?_
  rintro e wC ⟨bo, rfl, hnb, hbC, heldC⟩
  have HbC := hide (HbB.out.trans (hbC.mono HbB.out.size))
  have HeldA3 := hide ((HeldA2.out.below hbC).mono hbC.size)
  have HeldB2 := hide ((HeldB.out.below hbC).mono hbC.size)
  have HeldC := hide heldC
  clear HbB hbC HeldA2 HeldB heldC hnb HD HS HT
  obtain ⟨n1, hn1⟩ : ∃ n1, n1 = so.isNone := ⟨_, rfl⟩
  obtain ⟨n2, hn2⟩ : ∃ n2, n2 = bo.isNone := ⟨_, rfl⟩
  have HN1 := hide hn1
  have HN2 := hide hn2
  have h1 := hdLen_le n1 S hSl
  have h2 := hdLen_le n2 T hTl
  obtain ⟨r1, hr1⟩ : ∃ r1, r1 = (recOf n1 S).length := ⟨_, rfl⟩
  obtain ⟨r2, hr2⟩ : ∃ r2, r2 = (recOf n2 T).length := ⟨_, rfl⟩
  have hb1 : r1 ≤ 1048580 ∧ 1 ≤ r1 := by
    rw [hr1]; cases n1
    · rw [rec_some_len]; omega
    · rw [rec_nil_len]; omega
  have hb2 : r2 ≤ 1048580 ∧ 1 ≤ r2 := by
    rw [hr2]; cases n2
    · rw [rec_some_len]; omega
    · rw [rec_nil_len]; omega
  have HR1 := hide hr1
  have HR2 := hide hr2
  clear hn1 hn2 hr1 hr2
  go_wp2_with fail
  refine (zzappend_any wC.heap.size D.length _ (Lib.byteCells D) so S wC HeldA3.out.src (Nat.le_refl _) (by omega) HeldB2.out).mono ?_
  rintro e wD ⟨v1, rfl, hown1, hbD⟩
  rw [← HN1.out, ← Lib.byteCells_append, ← HR1.out] at hown1
  have HOwn1 := hide hown1
  have HbD := hide hbD
  have hsz : wC.heap.size ≤ wD.heap.size := hbD.size
  clear hown1 hbD
  go_wp2_with fail
  refine (zzappend_any wC.heap.size (D.length + r1) _ (Lib.byteCells (D ++ recOf n1 S)) bo T wD (.inl HOwn1.out) hsz (by omega) (HeldC.out.below HbD.out)).mono ?_
  rintro e wE ⟨v2, rfl, hown2, hbE⟩
  rw [← HN2.out, ← Lib.byteCells_append, ← HR2.out] at hown2
  obtain ⟨O, hO⟩ : ∃ O, O = D ++ recOf n1 S ++ recOf n2 T := ⟨_, rfl⟩
  rw [← hO] at hown2
  obtain ⟨g, c, rfl, hOl, hlie⟩ := own_value hown2 (by omega)
  have heq1 : ∀ j, j < D.length → bat O j = bat D j := fun j hj => by rw [hO, List.append_assoc]; exact bat_left _ _ _ hj
  have heq2 : ∀ j, j < r1 → bat O (D.length + j) = bat (recOf n1 S) j := fun j hj => by
    rw [hO, List.append_assoc, bat_right]; exact bat_left _ _ _ (by rw [← HR1.out]; exact hj)
  have heq3 : ∀ j, j < r2 → bat O (D.length + r1 + j) = bat (recOf n2 T) j := fun j _ => by
    rw [hO, show D.length + r1 = (D ++ recOf n1 S).length from by rw [List.length_append, ← HR1.out]]; exact bat_right _ _ _
  have HLie := hide hlie
  have HOl := hide hOl
  have hbF := HbD.out.trans hbE
  have HA := hide (HeldA3.out.below hbF)
  have HB := hide (HeldB2.out.below hbF)
  have HC := hide (HeldC.out.below hbF)
  have HEnd := hide (HbC.out.trans (hbF.mono HbC.out.size))
  have HE1 := hide heq1
  have HE2 := hide heq2
  have HE3 := hide heq3
  clear hown2 hbE hbF hlie hOl HeldA3 HeldB2 HeldC HbC HbD HOwn1 heq1 heq2 heq3 hO
  go_wp2_with fail
  refine (sameAt_held0 g (D.length + r1 + r2) c _ O ao D wE HLie.out HOl.out HA.out (by omega) (by omega) HE1.out).mono ?_
  rintro e w1 ⟨rfl, q1, rfl⟩
  go_wp2_with fail
  refine (readRecord_at g (D.length + r1 + r2) c O D.length n1 S (wE.drewN q1) _ (by omega) HLie.out HOl.out (by omega) hSl (by have := HR1.out; omega) (fun j hj => HE2.out j (by have := HR1.out; omega))).mono ?_
  rintro e w2 ⟨rfl, rfl⟩
  rw [← HR1.out]
  have q := eqnil
  have hn1 : so.isNone = n1 := HN1.out.symm
  have hn2 : bo.isNone = n2 := HN2.out.symm
  cases n1 with
  | true =>
    go_wp2_with fail
    refine (readRecord_at g (D.length + r1 + r2) c O (D.length + r1) n2 T (wE.drewN q1) _ (by omega) HLie.out HOl.out (by omega) hTl (by have := HR2.out; omega) (fun j hj => HE3.out j (by have := HR2.out; omega))).mono ?_
    rintro e w4 ⟨rfl, rfl⟩
    rw [← HR2.out]
    cases n2 with
    | true =>
      go_wp2
      go_ret
      exact ⟨rfl, below_drewN HEnd.out _⟩
    | false =>
      have hrs : r2 = hdLen false T + T.length := HR2.out.trans (rec_some_len T)
      obtain ⟨k, hk⟩ : ∃ k, k = hdLen false T := ⟨_, rfl⟩
      rw [← hk] at hrs h2 ⊢
      have heq5 : ∀ j, j < T.length → bat O (D.length + r1 + k + j) = bat T j := fun j hj => by
        rw [Nat.add_assoc (D.length + r1) k j, HE3.out (k + j) (by omega), hk]; exact rec_body T j
      have HE5 := hide heq5
      have hrs2 : k + T.length = r2 := hrs.symm
      clear heq5 hk hrs
      go_wp2_with fail
      refine (sameAt_at g (D.length + r1 + r2) c _ (D.length + r1 + k) O bo T (wE.drewN q1) _ (by omega) HLie.out HOl.out HC.out (by omega) (by omega) HE5.out).mono ?_
      rintro e w5 ⟨rfl, q3, rfl⟩
      go_wp2
      go_ret
      exact ⟨rfl, below_drewN HEnd.out _⟩
  | false =>
    have hrs : r1 = hdLen false S + S.length := HR1.out.trans (rec_some_len S)
    obtain ⟨h, hh⟩ : ∃ h, h = hdLen false S := ⟨_, rfl⟩
    rw [← hh] at hrs h1 ⊢
    have heq4 : ∀ j, j < S.length → bat O (D.length + h + j) = bat S j := fun j hj => by
      rw [Nat.add_assoc, HE2.out (h + j) (by omega), hh]; exact rec_body S j
    have HE4 := hide heq4
    have hrs1 : h + S.length = r1 := hrs.symm
    clear heq4 hh hrs
    go_wp2_with fail
    refine (sameAt_at g (D.length + r1 + r2) c _ (D.length + h) O so S (wE.drewN q1) _ (by omega) HLie.out HOl.out HB.out (by omega) (by omega) HE4.out).mono ?_
    rintro e w3 ⟨rfl, q2, rfl⟩
    go_wp2_with fail
    refine (readRecord_at g (D.length + r1 + r2) c O (D.length + r1) n2 T (wE.drewN (q1 + q2)) _ (by omega) HLie.out HOl.out (by omega) hTl (by have := HR2.out; omega) (fun j hj => HE3.out j (by have := HR2.out; omega))).mono ?_
    rintro e w4 ⟨rfl, rfl⟩
    rw [← HR2.out]
    cases n2 with
    | true =>
      go_wp2
      go_ret
      exact ⟨rfl, below_drewN HEnd.out _⟩
    | false =>
      have hrs : r2 = hdLen false T + T.length := HR2.out.trans (rec_some_len T)
      obtain ⟨k, hk⟩ : ∃ k, k = hdLen false T := ⟨_, rfl⟩
      rw [← hk] at hrs h2 ⊢
      have heq5 : ∀ j, j < T.length → bat O (D.length + r1 + k + j) = bat T j := fun j hj => by
        rw [Nat.add_assoc (D.length + r1) k j, HE3.out (k + j) (by omega), hk]; exact rec_body T j
      have HE5 := hide heq5
      have hrs2 : k + T.length = r2 := hrs.symm
      clear heq5 hk hrs
      go_wp2_with fail
      refine (sameAt_at g (D.length + r1 + r2) c _ (D.length + r1 + k) O bo T (wE.drewN (q1 + q2)) _ (by omega) HLie.out HOl.out HC.out (by omega) (by omega) HE5.out).mono ?_
      rintro e w5 ⟨rfl, q3, rfl⟩
      go_wp2
      go_ret
      exact ⟨rfl, below_drewN HEnd.out _⟩

/-! ### STEP 1: THE WALK: the Go text returns true, AND WRITES NOTHING THAT WAS THERE: 'Below w.heap.size w w'' (Derived/Below.lean: '.refl', '.alloc', '.drew', '.setCell' at a new block, '.trans'). Open each 'IsRow' by 'rcases' AHEAD of 'go_enter'; part every test ahead of the walk. -/
theorem walk (a0 : Option Addr) (len0 cap0 : Nat) (z0 : List Int) (a1 : Option Addr) (len1 cap1 : Nat) (z1 : List Int) (a2 : Option Addr) (len2 cap2 : Nat) (z2 : List Int) (w : World) (w0 : IsRow .u8 w a0 len0 cap0 z0) (w1 : IsRow .u8 w a1 len1 cap1 z1) (w2 : IsRow .u8 w a2 len2 cap2 z2) :
    Calls Trym.prog 6 #[.slice a0 len0 cap0, .slice a1 len1 cap1, .slice a2 len2 cap2] w fun e w' => e = .returned (.bool true) ∧ Below w.heap.size w w' := by
  have l0 := isRow_le w0
  have l1 := isRow_le w1
  have l2 := isRow_le w2
  obtain ⟨D, hD⟩ := came8_of w0
  obtain ⟨S, hS⟩ := came8_of w1
  obtain ⟨T, hT⟩ := came8_of w2
  by_cases hs : len0 + len1 + len2 ≤ 1048576
  · exact two_in a0 len0 cap0 D a1 len1 cap1 S a2 len2 cap2 T w hD hS hT hs
  · clear hD hS hT w0 w1 w2
    go_enter Trym.func6, Trym.ntmps6
    go_wp2_with fail
    refine (zz15_no a0 len0 cap0 a1 len1 cap1 a2 len2 cap2 _ hs l0 l1 l2).mono ?_
    rintro e w' ⟨rfl, rfl⟩
    go_wp2
    go_ret
    exact ⟨rfl, Below.refl _ _⟩

/-! ### THE ROW's STEP: WRITTEN OUT: LEAVE IT -/
set_option maxRecDepth 100000 in
theorem lifted (os : Os) (started : os.Started) (H : Type) (enc : TypeId × Value → H) :
    ReturnsInHanded {} Trym.checked os 6 .any (Rows.fnAppendNullableTwoRecordsReadBackSpec.pre6 enc Trym.prog Trym.f6 Rows.fnAppendNullableTwoRecordsReadBackRow.domain false) (Rows.fnAppendNullableTwoRecordsReadBackSpec.post enc Trym.prog Trym.f6 false true false false) := by
  refine returnsInHanded_of_change (C := Trym.checked) own started (by kernel_rfl) Trym.func6
    (ChangeSpec.witness6 (enc := enc) (C := Trym.checked) false ⟨#[], #[.slice none 0 0, .slice none 0 0, .slice none 0 0], []⟩ 8 (by kernel_rfl) (by kernel_rfl) (by kernel_rfl) (by kernel_rfl)) ?_
  intro W base args ds gs before hval0 hW hcnd _
  have hval : ∀ (j : Nat) t v, Trym.f6.params[j]? = some t → args[j]? = some v → Value.okWide Trym.prog W .any base t v := hval0
  have hW' := hW
  obtain ⟨p, q, hA0, hV, rfl, hfz, hnd⟩ := hW
  have hA : DataW.TrodAll enc Trym.prog W 0 (fun _ => true) true Trym.f6.params.toList args.toList ds p := hA0
  rw [Trym.params6] at hA hval
  obtain ⟨v0, vs0, d0, ds0, p0, q0, hargs, rfl, rfl, h0, r0⟩ := trodAll_cons hA
  obtain ⟨v1, vs1, d1, ds1, p1, q1, rfl, rfl, rfl, h1, r1⟩ := trodAll_cons r0
  obtain ⟨v2, vs2, d2, ds2, p2, q2, rfl, rfl, rfl, h2, r2⟩ := trodAll_cons r1
  obtain ⟨rfl, rfl, rfl⟩ := trodAll_nil r2
  obtain rfl : args = #[v0, v1, v2] := by cases args; simp_all
  obtain ⟨rfl, rfl⟩ := trodVars_none hV
  obtain ⟨a0, len0, cap0, rfl⟩ := okWide_slice Trym.underlying27 (hval 0 27 v0 rfl rfl)
  have k0 := h0
  have lt0 : ∀ x ∈ p0, x.block < W.heap.size := by obtain ⟨m, hm⟩ := k0; exact DataW.trod_lt m _ _ _ hm
  obtain ⟨z0, w0⟩ : ∃ zs, IsRow .u8 W a0 len0 cap0 zs := by
    obtain ⟨fuel, hf⟩ := h0
    rcases open_ints Trym.underlying27 Trym.underlying5 (by kernel_rfl) hf with ⟨hcs, _⟩ | ⟨x, l, c, zs, hcs, _, hl, hm, hz, _, hcell, hwz⟩
    · simp [Value.cells] at hcs
      obtain ⟨rfl, rfl, rfl⟩ := hcs
      exact ⟨[], .inl ⟨rfl, rfl, rfl, rfl⟩⟩
    · simp [Value.cells] at hcs
      obtain ⟨rfl, rfl, rfl⟩ := hcs
      exact ⟨zs, .inr ⟨_, rfl, hl, hm, by simpa using hz, hcell, hwz⟩⟩
  obtain ⟨a1, len1, cap1, rfl⟩ := okWide_slice Trym.underlying27 (hval 1 27 v1 rfl rfl)
  have k1 := h1
  have lt1 : ∀ x ∈ p1, x.block < W.heap.size := by obtain ⟨m, hm⟩ := k1; exact DataW.trod_lt m _ _ _ hm
  obtain ⟨z1, w1⟩ : ∃ zs, IsRow .u8 W a1 len1 cap1 zs := by
    obtain ⟨fuel, hf⟩ := h1
    rcases open_ints Trym.underlying27 Trym.underlying5 (by kernel_rfl) hf with ⟨hcs, _⟩ | ⟨x, l, c, zs, hcs, _, hl, hm, hz, _, hcell, hwz⟩
    · simp [Value.cells] at hcs
      obtain ⟨rfl, rfl, rfl⟩ := hcs
      exact ⟨[], .inl ⟨rfl, rfl, rfl, rfl⟩⟩
    · simp [Value.cells] at hcs
      obtain ⟨rfl, rfl, rfl⟩ := hcs
      exact ⟨zs, .inr ⟨_, rfl, hl, hm, by simpa using hz, hcell, hwz⟩⟩
  obtain ⟨a2, len2, cap2, rfl⟩ := okWide_slice Trym.underlying27 (hval 2 27 v2 rfl rfl)
  have k2 := h2
  have lt2 : ∀ x ∈ p2, x.block < W.heap.size := by obtain ⟨m, hm⟩ := k2; exact DataW.trod_lt m _ _ _ hm
  obtain ⟨z2, w2⟩ : ∃ zs, IsRow .u8 W a2 len2 cap2 zs := by
    obtain ⟨fuel, hf⟩ := h2
    rcases open_ints Trym.underlying27 Trym.underlying5 (by kernel_rfl) hf with ⟨hcs, _⟩ | ⟨x, l, c, zs, hcs, _, hl, hm, hz, _, hcell, hwz⟩
    · simp [Value.cells] at hcs
      obtain ⟨rfl, rfl, rfl⟩ := hcs
      exact ⟨[], .inl ⟨rfl, rfl, rfl, rfl⟩⟩
    · simp [Value.cells] at hcs
      obtain ⟨rfl, rfl, rfl⟩ := hcs
      exact ⟨zs, .inr ⟨_, rfl, hl, hm, by simpa using hz, hcell, hwz⟩⟩
  clear hA0 hval0
  refine (walk a0 len0 cap0 z0 a1 len1 cap1 z1 a2 len2 cap2 z2 W w0 w1 w2).mono fun e W' ⟨he, bel⟩ => ?_
  subst he
  exact ⟨_, rfl, _, _, _, [], _, [], hW', trodAll_mk1 (shut_bool Trym.underlying4 _), (trodAll_cons_mk (Below.trod laidOut (by kernel_rfl) (of_decide_eq_true (by kernel_rfl)) k0 bel lt0) (trodAll_cons_mk (Below.trod laidOut (by kernel_rfl) (of_decide_eq_true (by kernel_rfl)) k1 bel lt1) (trodAll_cons_mk (Below.trod laidOut (by kernel_rfl) (of_decide_eq_true (by kernel_rfl)) k2 bel lt2) trodAll_mk0))), rfl, bel.frame _, fun h => by cases h⟩

theorem over : Rows.fnAppendNullableTwoRecordsReadBackRow.holds Trym.pinned (OpenSpec.ofChange Rows.fnAppendNullableTwoRecordsReadBackSpec) :=
  OpenClaim.holds_of_wide 6 Trym.f6 rfl rfl rfl rfl rfl rfl rfl ⟨rfl, rfl, rfl, rfl, rfl⟩ rfl rfl rfl rfl rfl (by kernel_rfl) Trym.func6 (by kernel_rfl)
    (of_decide_eq_true (by kernel_rfl)) (by unfold Func.isWrapper; first | (rw [if_pos (by decide +kernel)]; kernel_rfl) | (rw [if_neg (by decide +kernel)]; exact ⟨rfl, rfl⟩))
    (fun os started H enc _ => lifted os started H enc)

/-- ████ THE STATEMENT ████ -/
theorem proved : Rows.FnAppendNullableTwoRecordsReadBackSaid := over
#print axioms proved
end Go.Proofs.Qxb6604652aMods.fnAppendNullableTwoRecordsReadBack
