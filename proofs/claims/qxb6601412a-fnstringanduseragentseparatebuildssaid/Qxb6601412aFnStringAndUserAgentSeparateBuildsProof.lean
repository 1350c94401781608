/- The proof of 'Rows.FnStringAndUserAgentSeparateBuildsSaid': the walk over the contracts; the frame after the guide's shell, by 'Below'. -/
import Derived.Test.Qxb6601412aRows
import Derived.Test.Qxb6601412aCalls
import Derived.Test.Qxb6601412aPlain
import Derived.WalkKit
import Derived.ProofKit
import Derived.OpenShut
import Derived.ShutString
import Derived.ChangeOld
import Derived.Below
import Derived.WalkSpells
import Derived.WalkLawsBesides
import Derived.Deep.RegionWith
import Derived.Deep.DrawnRows
import Derived.Deep.DeepCutAuto
namespace Go.Proofs.Qxb6601412a.fnStringAndUserAgentSeparateBuilds
open Go.ChangeShapes Go.WideShapes Go.ChangeAt Go.RowKit
open Go.ChangeMaps (open_string shut_string)
set_option linter.unusedVariables false      -- a walk need not use every 'w<i>' (that an integer argument fits its kind)

theorem own : ownKnob Try.prog.godebug = none := by kernel_rfl

attribute [local go_sem ↓] Go.wp_at_zero Go.wp_at_succ

theorem up {w a b : World} (h : Below w.heap.size w a) (k : Below a.heap.size a b) : Below w.heap.size w b := h.trans (k.mono h.size)
theorem new {w a : World} (h : Below w.heap.size w a) (o : Obj) : Below w.heap.size w (a.alloc o) := h.alloc h.size o

theorem bcell {W w1 : World} (hb : Below W.heap.size W w1) : ∀ b o, b < W.heap.size → w1.cell? ⟨b, o, none⟩ = W.cell? ⟨b, o, none⟩ :=
  fun b o h => hb.cell (p := ⟨b, o, none⟩) h

set_option maxHeartbeats 1000000 in
theorem walk_main (a0 : ByteArray) (a1 : Bool) (a2 : ByteArray) (a3 : Bool) (h : a0.size + a2.size ≤ 1048576) (w : World)
    (hp0 : ∀ k (h : k < a0.size), a0[k] ≠ 43) (hp2 : ∀ k (h : k < a2.size), a2[k] ≠ 43) (hu0 : (a0.toList == [117, 110, 107, 110, 111, 119, 110]) = false) (hu2 : (a2.toList == [117, 110, 107, 110, 111, 119, 110]) = false)
    (hS : ((strOf a0 a1).toList == (strOf a2 a3).toList) = sameB a0 a1 a2 a3) (hU : ((uaOf a0 a1).toList == (uaOf a2 a3).toList) = sameB a0 a1 a2 a3) :
    Calls Try.prog 3 #[.string a0, .bool a1, .string a2, .bool a3] w fun e w' => e = .returned (.bool true) ∧ Below w.heap.size w w' := by
  go_enter Try.func3, Try.ntmps3
  go_wp2_with fail
  refine (bytes_yes a0 a2 a1 a3 h _).mono ?_
  rintro e w' ⟨rfl, rfl⟩
  go_wp2_with fail
  refine (plus_no a0 _ (by omega) hp0).mono ?_
  rintro e w' ⟨rfl, rfl⟩
  go_wp2_with fail
  refine (plus_no a2 _ (by omega) hp2).mono ?_
  rintro e w' ⟨rfl, rfl⟩
  go_upto_region 11 with fail
  clear hp0 hp2 hu0 hu2
  go_cut [11] (fun s11 wx => s11 = .bool (sameB a0 a1 a2 a3) ∧ (w'.alloc (.cells #[.string a0, .bool a1] 25)).alloc (.cells #[.string a2, .bool a3] 25) = wx)
  case first =>
    clear hS hU
    cases a1 <;> cases a3 <;> go_wp2_with fail
    all_goals go_meet
    all_goals (refine ⟨congrArg Value.bool ?_, rfl⟩; simp [sameB, *])
  case rest =>
  obtain ⟨rfl, rfl⟩ := hcut
  generalize sameB a0 a1 a2 a3 = same at *
  go_wp2_with fail
  go_region_with (go_at_call 6; refine (string_any _ _ _ (by omega)).mono ?_; rintro e w' ⟨rfl, rfl⟩)
  all_goals go_wp2_with fail
  all_goals (go_region_with (go_at_call 7; refine (ua_any _ _ _ (by omega)).mono ?_; rintro e w1 ⟨rfl, hb⟩; have hc := bcell hb))
  all_goals go_wp2
  all_goals go_ret
  all_goals (refine ⟨rfl, ?_⟩; refine up ?_ (by assumption); refine up ?_ (by assumption); repeat (first | exact Below.refl _ _ | refine Below.drew ?_ | refine new ?_ _))

theorem plus_or (s : ByteArray) : (∀ k (h : k < s.size), s[k] ≠ 43) ∨ ∃ k, ∃ h : k < s.size, s[k] = 43 := by
  by_cases h : ∃ k, ∃ h : k < s.size, s[k] = 43
  · exact .inr h
  · exact .inl fun k hk e => h ⟨k, hk, e⟩

set_option maxHeartbeats 1000000 in
theorem walk (a0 : ByteArray) (a1 : Bool) (a2 : ByteArray) (a3 : Bool) (w0 : a0.size ≤ maxLen) (w2 : a2.size ≤ maxLen) (w : World) :
    Calls Try.prog 3 #[.string a0, .bool a1, .string a2, .bool a3] w fun e w' => e = .returned (.bool true) ∧ Below w.heap.size w w' := by
  by_cases h : a0.size + a2.size ≤ 1048576
  · rcases plus_or a0 with hp0 | ⟨k0, hk0, e0⟩
    · rcases plus_or a2 with hp2 | ⟨k2, hk2, e2⟩
      · by_cases hu0 : a0.toList = unkL
        · have hu0' : (a0.toList == [117, 110, 107, 110, 111, 119, 110]) = true := by rw [hu0]; decide
          clear hu0
          go_enter Try.func3, Try.ntmps3
          go_wp2_with fail
          refine (bytes_yes a0 a2 a1 a3 h _).mono ?_
          rintro e w' ⟨rfl, rfl⟩
          go_wp2_with fail
          refine (plus_no a0 _ (by omega) hp0).mono ?_
          rintro e w' ⟨rfl, rfl⟩
          go_wp2_with fail
          refine (plus_no a2 _ (by omega) hp2).mono ?_
          rintro e w' ⟨rfl, rfl⟩
          go_wp2
          go_ret
          exact ⟨rfl, Below.refl _ _⟩
        · have hu0' : (a0.toList == [117, 110, 107, 110, 111, 119, 110]) = false := beq_eq_false_iff_ne.2 hu0
          by_cases hu2 : a2.toList = unkL
          · have hu2' : (a2.toList == [117, 110, 107, 110, 111, 119, 110]) = true := by rw [hu2]; decide
            clear hu2 hu0
            go_enter Try.func3, Try.ntmps3
            go_wp2_with fail
            refine (bytes_yes a0 a2 a1 a3 h _).mono ?_
            rintro e w' ⟨rfl, rfl⟩
            go_wp2_with fail
            refine (plus_no a0 _ (by omega) hp0).mono ?_
            rintro e w' ⟨rfl, rfl⟩
            go_wp2_with fail
            refine (plus_no a2 _ (by omega) hp2).mono ?_
            rintro e w' ⟨rfl, rfl⟩
            go_wp2
            go_ret
            exact ⟨rfl, Below.refl _ _⟩
          · have hu2' : (a2.toList == [117, 110, 107, 110, 111, 119, 110]) = false := beq_eq_false_iff_ne.2 hu2
            exact walk_main a0 a1 a2 a3 h w hp0 hp2 hu0' hu2' (str_same a0 a1 a2 a3 hp0 hp2 hu0 hu2) (ua_same a0 a1 a2 a3 hp0 hp2 hu0 hu2)
      · have E2 := hide e2
        clear e2
        go_enter Try.func3, Try.ntmps3
        go_wp2_with fail
        refine (bytes_yes a0 a2 a1 a3 h _).mono ?_
        rintro e w' ⟨rfl, rfl⟩
        go_wp2_with fail
        refine (plus_no a0 _ (by omega) hp0).mono ?_
        rintro e w' ⟨rfl, rfl⟩
        go_wp2_with fail
        refine (plus_yes a2 _ (by omega) k2 hk2 E2.out).mono ?_
        rintro e w' ⟨rfl, rfl⟩
        go_wp2
        go_ret
        exact ⟨rfl, Below.refl _ _⟩
    · have E0 := hide e0
      clear e0
      go_enter Try.func3, Try.ntmps3
      go_wp2_with fail
      refine (bytes_yes a0 a2 a1 a3 h _).mono ?_
      rintro e w' ⟨rfl, rfl⟩
      go_wp2_with fail
      refine (plus_yes a0 _ (by omega) k0 hk0 E0.out).mono ?_
      rintro e w' ⟨rfl, rfl⟩
      go_wp2
      go_ret
      exact ⟨rfl, Below.refl _ _⟩
  · go_enter Try.func3, Try.ntmps3
    go_wp2_with fail
    refine (bytes_no a0 a2 a1 a3 h w0 w2 _).mono ?_
    rintro e w' ⟨rfl, rfl⟩
    go_wp2
    go_ret
    exact ⟨rfl, Below.refl _ _⟩

/-! ### THE ROW's STEP: WRITTEN OUT: LEAVE IT -/
set_option maxRecDepth 100000 in
theorem lifted (os : Os) (started : os.Started) (H : Type) (enc : TypeId × Value → H) :
    ReturnsInHanded {} Try.checked os 3 .any (Rows.fnStringAndUserAgentSeparateBuildsSpec.pre6 enc Try.prog Try.f3 Rows.fnStringAndUserAgentSeparateBuildsRow.domain false) (Rows.fnStringAndUserAgentSeparateBuildsSpec.post enc Try.prog Try.f3 false true false false) := by
  refine returnsInHanded_of_change (C := Try.checked) own started (by kernel_rfl) Try.func3
    (ChangeSpec.witness6 (enc := enc) (C := Try.checked) false ⟨#[], #[.string ByteArray.empty, .bool false, .string ByteArray.empty, .bool false], []⟩ 8 (by kernel_rfl) (by kernel_rfl) (by kernel_rfl) (by kernel_rfl)) ?_
  intro W base args ds gs before hval0 hW hcnd _
  have hval : ∀ (j : Nat) t v, Try.f3.params[j]? = some t → args[j]? = some v → Value.okWide Try.prog W .any base t v := hval0
  have hW' := hW
  obtain ⟨p, q, hA0, hV, rfl, hfz, hnd⟩ := hW
  have hA : DataW.TrodAll enc Try.prog W 0 (fun _ => true) true Try.f3.params.toList args.toList ds p := hA0
  rw [Try.params3] at hA hval
  obtain ⟨v0, vs0, d0, ds0, p0, q0, hargs, rfl, rfl, h0, r0⟩ := trodAll_cons hA
  obtain ⟨v1, vs1, d1, ds1, p1, q1, rfl, rfl, rfl, h1, r1⟩ := trodAll_cons r0
  obtain ⟨v2, vs2, d2, ds2, p2, q2, rfl, rfl, rfl, h2, r2⟩ := trodAll_cons r1
  obtain ⟨v3, vs3, d3, ds3, p3, q3, rfl, rfl, rfl, h3, r3⟩ := trodAll_cons r2
  obtain ⟨rfl, rfl, rfl⟩ := trodAll_nil r3
  obtain rfl : args = #[v0, v1, v2, v3] := by cases args; simp_all
  obtain ⟨rfl, rfl⟩ := trodVars_none hV
  obtain ⟨a0, rfl, rfl, rfl, w0⟩ := open_string Try.underlying9 (hval 0 9 v0 rfl rfl) h0
  obtain ⟨a1, rfl, rfl, rfl⟩ := open_bool Try.underlying4 (hval 1 4 v1 rfl rfl) h1
  obtain ⟨a2, rfl, rfl, rfl, w2⟩ := open_string Try.underlying9 (hval 2 9 v2 rfl rfl) h2
  obtain ⟨a3, rfl, rfl, rfl⟩ := open_bool Try.underlying4 (hval 3 4 v3 rfl rfl) h3
  clear hA0 hval0
  refine (walk a0 a1 a2 a3 w0 w2 W).mono fun e W' ⟨he, bel⟩ => ?_
  subst he
  exact ⟨_, rfl, _, _, _, [], _, [], hW', trodAll_mk1 (shut_bool Try.underlying4 _), (trodAll_cons_mk (shut_string Try.underlying9 w0) (trodAll_cons_mk (shut_bool Try.underlying4 _) (trodAll_cons_mk (shut_string Try.underlying9 w2) (trodAll_cons_mk (shut_bool Try.underlying4 _) trodAll_mk0)))), rfl, bel.frame _, fun h => by cases h⟩

theorem over : Rows.fnStringAndUserAgentSeparateBuildsRow.holds Try.pinned (OpenSpec.ofChange Rows.fnStringAndUserAgentSeparateBuildsSpec) :=
  OpenClaim.holds_of_wide 3 Try.f3 rfl rfl rfl rfl rfl rfl rfl ⟨rfl, rfl, rfl, rfl, rfl⟩ rfl rfl rfl rfl rfl (by kernel_rfl) Try.func3 (by kernel_rfl)
    (of_decide_eq_true (by kernel_rfl)) (by unfold Func.isWrapper; first | (rw [if_pos (by decide +kernel)]; kernel_rfl) | (rw [if_neg (by decide +kernel)]; exact ⟨rfl, rfl⟩))
    (fun os started H enc _ => lifted os started H enc)

/-- ████ THE STATEMENT ████ -/
theorem proved : Rows.FnStringAndUserAgentSeparateBuildsSaid :=
  over
end Go.Proofs.Qxb6601412a.fnStringAndUserAgentSeparateBuilds
