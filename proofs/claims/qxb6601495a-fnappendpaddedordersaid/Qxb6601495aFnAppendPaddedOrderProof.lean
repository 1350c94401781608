/- The proof of 'Rows.FnAppendPaddedOrderSaid': the walk over the contracts; the frame after the guide's shell, by 'Below'. -/
import Derived.Test.Qxb6601495aRows
import Derived.Test.Qxb6601495aPad
import Derived.Test.Qxb6601495aCompare
import Derived.WalkKit
import Derived.ProofKit
import Derived.OpenShut
import Derived.ShutString
import Derived.ChangeOld
import Derived.Below
import Derived.WalkSpells
import Derived.WalkLawsBesides
namespace Go.Proofs.Qxb6601495a.fnAppendPaddedOrder
open Go.ChangeShapes Go.WideShapes Go.ChangeAt Go.RowKit
open Go.ChangeMaps (open_string shut_string)
set_option linter.unusedVariables false      -- a walk need not use every 'w<i>' (that an integer argument fits its kind)

theorem own : ownKnob Try.prog.godebug = none := by kernel_rfl

set_option maxHeartbeats 1000000 in
theorem walk_lt (A B W : Nat) (w : World) (hW : W ≤ 4) (hA : A < p10 W) (hB : B < p10 W) (hAB : A < B) :
    Calls Try.prog 6 #[.int .u64 A, .int .u64 B, .int .i64 W] w fun e w' => e = .returned (.bool true) ∧ Below w.heap.size w w' := by
  obtain ⟨k0, hk0, he, hl⟩ := digs_less W A B hAB hB
  have he' : ∀ j, j < k0 → (digs A W)[j]?.getD 0 = (digs B W)[j]?.getD 0 := fun j hj => by rw [digs_get _ _ _ (by omega), digs_get _ _ _ (by omega)]; exact he j hj
  have hl' : (digs A W)[k0]?.getD 0 < (digs B W)[k0]?.getD 0 := by rw [digs_get _ _ _ hk0, digs_get _ _ _ hk0]; exact hl
  have HE := hide he'
  have HL := hide hl'
  clear he hl he' hl'
  have h10 : p10 W ≤ 10000 := by unfold p10; exact Nat.pow_le_pow_right (by omega) hW
  go_enter Try.func6, Try.ntmps6
  go_wp2_with fail
  refine (pow_any _ W _ rfl hW).mono ?_
  rintro e w' ⟨rfl, rfl⟩
  go_wp2_with fail
  refine (zzpadded_any none [] _ _ A W _ rfl rfl (by simp) hW hA ⟨.inl rfl, by simp⟩).mono ?_
  rintro e w1 ⟨a1, n1, c1, rfl, hn1, hz1, hb1⟩
  rw [List.length_nil, Nat.zero_add] at hn1
  replace hn1 := hn1.symm
  subst hn1
  go_wp2_with fail
  refine (zzpadded_any none [] _ _ B W _ rfl rfl (by simp) hW hB ⟨.inl rfl, by simp⟩).mono ?_
  rintro e w2 ⟨a2, n2, c2, rfl, hn2, hz2, hb2⟩
  rw [List.length_nil, Nat.zero_add] at hn2
  replace hn2 := hn2.symm
  subst hn2
  rw [List.nil_append] at hz1 hz2
  go_wp2_with fail
  refine (cmp_lt a1 a2 (digs A W) (digs B W) W W c1 c2 k0 _ (digs_length _ _).symm (digs_length _ _).symm (by rw [digs_length, digs_length]) (by rw [digs_length]; omega) (hz1.later hb2) hz2 (by rw [digs_length]; exact hk0) HE.out HL.out).mono ?_
  rintro e w3 ⟨rfl, hb3⟩
  go_wp2
  go_ret
  exact ⟨rfl, up (up hb1 hb2) hb3⟩

set_option maxHeartbeats 1000000 in
theorem walk_gt (A B W : Nat) (w : World) (hW : W ≤ 4) (hA : A < p10 W) (hB : B < p10 W) (hAB : B < A) :
    Calls Try.prog 6 #[.int .u64 A, .int .u64 B, .int .i64 W] w fun e w' => e = .returned (.bool true) ∧ Below w.heap.size w w' := by
  obtain ⟨k0, hk0, he, hl⟩ := digs_less W B A hAB hA
  have he' : ∀ j, j < k0 → (digs A W)[j]?.getD 0 = (digs B W)[j]?.getD 0 := fun j hj => by rw [digs_get _ _ _ (by omega), digs_get _ _ _ (by omega)]; exact (he j hj).symm
  have hl' : (digs B W)[k0]?.getD 0 < (digs A W)[k0]?.getD 0 := by rw [digs_get _ _ _ hk0, digs_get _ _ _ hk0]; exact hl
  have HE := hide he'
  have HL := hide hl'
  clear he hl he' hl'
  have h10 : p10 W ≤ 10000 := by unfold p10; exact Nat.pow_le_pow_right (by omega) hW
  go_enter Try.func6, Try.ntmps6
  go_wp2_with fail
  refine (pow_any _ W _ rfl hW).mono ?_
  rintro e w' ⟨rfl, rfl⟩
  go_wp2_with fail
  refine (zzpadded_any none [] _ _ A W _ rfl rfl (by simp) hW hA ⟨.inl rfl, by simp⟩).mono ?_
  rintro e w1 ⟨a1, n1, c1, rfl, hn1, hz1, hb1⟩
  rw [List.length_nil, Nat.zero_add] at hn1
  replace hn1 := hn1.symm
  subst hn1
  go_wp2_with fail
  refine (zzpadded_any none [] _ _ B W _ rfl rfl (by simp) hW hB ⟨.inl rfl, by simp⟩).mono ?_
  rintro e w2 ⟨a2, n2, c2, rfl, hn2, hz2, hb2⟩
  rw [List.length_nil, Nat.zero_add] at hn2
  replace hn2 := hn2.symm
  subst hn2
  rw [List.nil_append] at hz1 hz2
  go_wp2_with fail
  refine (cmp_gt a1 a2 (digs A W) (digs B W) W W c1 c2 k0 _ (digs_length _ _).symm (digs_length _ _).symm (by rw [digs_length, digs_length]) (by rw [digs_length]; omega) (hz1.later hb2) hz2 (by rw [digs_length]; exact hk0) HE.out HL.out).mono ?_
  rintro e w3 ⟨rfl, hb3⟩
  go_wp2
  go_ret
  exact ⟨rfl, up (up hb1 hb2) hb3⟩

set_option maxHeartbeats 1000000 in
theorem walk_eq (A B W : Nat) (w : World) (hW : W ≤ 4) (hA : A < p10 W) (hB : B < p10 W) (hAB : A = B) :
    Calls Try.prog 6 #[.int .u64 A, .int .u64 B, .int .i64 W] w fun e w' => e = .returned (.bool true) ∧ Below w.heap.size w w' := by
  subst hAB
  have h10 : p10 W ≤ 10000 := by unfold p10; exact Nat.pow_le_pow_right (by omega) hW
  go_enter Try.func6, Try.ntmps6
  go_wp2_with fail
  refine (pow_any _ W _ rfl hW).mono ?_
  rintro e w' ⟨rfl, rfl⟩
  go_wp2_with fail
  refine (zzpadded_any none [] _ _ A W _ rfl rfl (by simp) hW hA ⟨.inl rfl, by simp⟩).mono ?_
  rintro e w1 ⟨a1, n1, c1, rfl, hn1, hz1, hb1⟩
  rw [List.length_nil, Nat.zero_add] at hn1
  replace hn1 := hn1.symm
  subst hn1
  go_wp2_with fail
  refine (zzpadded_any none [] _ _ A W _ rfl rfl (by simp) hW hA ⟨.inl rfl, by simp⟩).mono ?_
  rintro e w2 ⟨a2, n2, c2, rfl, hn2, hz2, hb2⟩
  rw [List.length_nil, Nat.zero_add] at hn2
  replace hn2 := hn2.symm
  subst hn2
  rw [List.nil_append] at hz1 hz2
  go_wp2_with fail
  refine (cmp_eq a1 a2 (digs A W) W W c1 c2 _ (digs_length _ _).symm (digs_length _ _).symm (by rw [digs_length]; omega) (hz1.later hb2) hz2).mono ?_
  rintro e w3 ⟨rfl, hb3⟩
  go_wp2
  go_ret
  exact ⟨rfl, up (up hb1 hb2) hb3⟩

set_option maxHeartbeats 1000000 in
theorem walk (a0 : Int) (a1 : Int) (a2 : Int) (w0 : (Lit.int .u64 a0).wf = true) (w1 : (Lit.int .u64 a1).wf = true) (w2 : (Lit.int .i64 a2).wf = true) (w : World) :
    Calls Try.prog 6 #[.int .u64 a0, .int .u64 a1, .int .i64 a2] w fun e w' => e = .returned (.bool true) ∧ Below w.heap.size w w' := by
  have b0 := bounds_u64 w0
  have b1 := bounds_u64 w1
  clear w0 w1 w2
  by_cases hlo : a2 < 0
  · go_enter Try.func6, Try.ntmps6
    go_wp2
    go_ret
    exact ⟨rfl, Below.refl _ _⟩
  · by_cases hhi : 4 < a2
    · go_enter Try.func6, Try.ntmps6
      go_wp2
      go_ret
      exact ⟨rfl, Below.refl _ _⟩
    · obtain ⟨W, rfl⟩ := Int.eq_ofNat_of_zero_le (Int.not_lt.1 hlo)
      obtain ⟨A, rfl⟩ := Int.eq_ofNat_of_zero_le b0.1
      obtain ⟨B, rfl⟩ := Int.eq_ofNat_of_zero_le b1.1
      have hW : W ≤ 4 := by omega
      clear hlo hhi
      by_cases hA : A < p10 W
      · by_cases hB : B < p10 W
        · rcases Nat.lt_trichotomy A B with h | h | h
          · exact walk_lt A B W w hW hA hB h
          · exact walk_eq A B W w hW hA hB h
          · exact walk_gt A B W w hW hA hB h
        · go_enter Try.func6, Try.ntmps6
          go_wp2_with fail
          refine (pow_any _ W _ rfl hW).mono ?_
          rintro e w' ⟨rfl, rfl⟩
          go_wp2
          go_ret
          exact ⟨rfl, Below.refl _ _⟩
      · go_enter Try.func6, Try.ntmps6
        go_wp2_with fail
        refine (pow_any _ W _ rfl hW).mono ?_
        rintro e w' ⟨rfl, rfl⟩
        go_wp2
        go_ret
        exact ⟨rfl, Below.refl _ _⟩

/-! ### THE ROW's STEP: WRITTEN OUT: LEAVE IT -/
set_option maxRecDepth 100000 in
theorem lifted (os : Os) (started : os.Started) (H : Type) (enc : TypeId × Value → H) :
    ReturnsInHanded {} Try.checked os 6 .any (Rows.fnAppendPaddedOrderSpec.pre6 enc Try.prog Try.f6 Rows.fnAppendPaddedOrderRow.domain false) (Rows.fnAppendPaddedOrderSpec.post enc Try.prog Try.f6 false true false false) := by
  refine returnsInHanded_of_change (C := Try.checked) own started (by kernel_rfl) Try.func6
    (ChangeSpec.witness6 (enc := enc) (C := Try.checked) false ⟨#[], #[.int .u64 0, .int .u64 0, .int .i64 0], []⟩ 8 (by kernel_rfl) (by kernel_rfl) (by kernel_rfl) (by kernel_rfl)) ?_
  intro W base args ds gs before hval0 hW hcnd _
  have hval : ∀ (j : Nat) t v, Try.f6.params[j]? = some t → args[j]? = some v → Value.okWide Try.prog W .any base t v := hval0
  have hW' := hW
  obtain ⟨p, q, hA0, hV, rfl, hfz, hnd⟩ := hW
  have hA : DataW.TrodAll enc Try.prog W 0 (fun _ => true) true Try.f6.params.toList args.toList ds p := hA0
  rw [Try.params6] at hA hval
  obtain ⟨v0, vs0, d0, ds0, p0, q0, hargs, rfl, rfl, h0, r0⟩ := trodAll_cons hA
  obtain ⟨v1, vs1, d1, ds1, p1, q1, rfl, rfl, rfl, h1, r1⟩ := trodAll_cons r0
  obtain ⟨v2, vs2, d2, ds2, p2, q2, rfl, rfl, rfl, h2, r2⟩ := trodAll_cons r1
  obtain ⟨rfl, rfl, rfl⟩ := trodAll_nil r2
  obtain rfl : args = #[v0, v1, v2] := by cases args; simp_all
  obtain ⟨rfl, rfl⟩ := trodVars_none hV
  obtain ⟨a0, rfl, rfl, rfl, w0⟩ := open_int Try.underlying25 (hval 0 25 v0 rfl rfl) h0
  obtain ⟨a1, rfl, rfl, rfl, w1⟩ := open_int Try.underlying25 (hval 1 25 v1 rfl rfl) h1
  obtain ⟨a2, rfl, rfl, rfl, w2⟩ := open_int Try.underlying3 (hval 2 3 v2 rfl rfl) h2
  clear hA0 hval0
  refine (walk a0 a1 a2 w0 w1 w2 W).mono fun e W' ⟨he, bel⟩ => ?_
  subst he
  exact ⟨_, rfl, _, _, _, [], _, [], hW', trodAll_mk1 (shut_bool Try.underlying4 _), (trodAll_cons_mk (shut_int Try.underlying25 w0) (trodAll_cons_mk (shut_int Try.underlying25 w1) (trodAll_cons_mk (shut_int Try.underlying3 w2) trodAll_mk0))), rfl, bel.frame _, fun h => by cases h⟩

theorem over : Rows.fnAppendPaddedOrderRow.holds Try.pinned (OpenSpec.ofChange Rows.fnAppendPaddedOrderSpec) :=
  OpenClaim.holds_of_wide 6 Try.f6 rfl rfl rfl rfl rfl rfl rfl ⟨rfl, rfl, rfl, rfl, rfl⟩ rfl rfl rfl rfl rfl (by kernel_rfl) Try.func6 (by kernel_rfl)
    (of_decide_eq_true (by kernel_rfl)) (by unfold Func.isWrapper; first | (rw [if_pos (by decide +kernel)]; kernel_rfl) | (rw [if_neg (by decide +kernel)]; exact ⟨rfl, rfl⟩))
    (fun os started H enc _ => lifted os started H enc)

/-- ████ THE STATEMENT ████ -/
theorem proved : Rows.FnAppendPaddedOrderSaid :=
  over
end Go.Proofs.Qxb6601495a.fnAppendPaddedOrder
