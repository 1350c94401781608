/- The proof of 'Rows.FnDigitsOnlyMatchesByteModelSaid': the walk over the contracts; the frame after the guide's shell, by 'Below'. -/
import Derived.Test.Qxb6601495aRows
import Derived.Test.Qxb6601495aDigits
import Derived.WalkKit
import Derived.ProofKit
import Derived.OpenShut
import Derived.ShutString
import Derived.ChangeOld
import Derived.Below
import Derived.WalkSpells
import Derived.WalkLawsBesides
namespace Go.Proofs.Qxb6601495a.fnDigitsOnlyMatchesByteModel
open Go.ChangeShapes Go.WideShapes Go.ChangeAt Go.RowKit
open Go.ChangeMaps (open_string shut_string)
set_option linter.unusedVariables false      -- a walk need not use every 'w<i>' (that an integer argument fits its kind)

theorem own : ownKnob Try.prog.godebug = none := by kernel_rfl

set_option maxHeartbeats 400000 in
theorem zz_empty (s : ByteArray) (w : World) (h : s.toList.isEmpty = true) :
    Calls Try.prog 8 #[.string s] w fun e w' => e = .returned (.bool false) ∧ Below w.heap.size w w' := by
  go_enter Try.func8, Try.ntmps8
  go_wp2_with fail
  refine (digits_empty s _ h).mono ?_
  rintro e w' ⟨rfl, hb⟩
  go_wp2
  go_ret
  exact ⟨rfl, hb⟩

set_option maxHeartbeats 400000 in
theorem zz_yes (s : ByteArray) (w : World) (h : s.toList.isEmpty = false) (hd : ∀ k (h : k < s.size), Dig s k h) :
    Calls Try.prog 8 #[.string s] w fun e w' => e = .returned (.bool true) ∧ Below w.heap.size w w' := by
  go_enter Try.func8, Try.ntmps8
  go_wp2_with fail
  refine (digits_yes s _ h hd).mono ?_
  rintro e w' ⟨rfl, hb⟩
  go_wp2
  go_ret
  exact ⟨rfl, hb⟩

set_option maxHeartbeats 400000 in
theorem zz_no (s : ByteArray) (w : World) (h : s.toList.isEmpty = false) (k0 : Nat) (h0 : k0 < s.size) (hd : ∀ k (h : k < s.size), k < k0 → Dig s k h) (hn : ¬ Dig s k0 h0) :
    Calls Try.prog 8 #[.string s] w fun e w' => e = .returned (.bool false) ∧ Below w.heap.size w w' := by
  go_enter Try.func8, Try.ntmps8
  go_wp2_with fail
  refine (digits_no s _ h k0 h0 hd hn).mono ?_
  rintro e w' ⟨rfl, hb⟩
  go_wp2
  go_ret
  exact ⟨rfl, hb⟩

theorem first_bad (s : ByteArray) : (∀ k (h : k < s.size), Dig s k h) ∨ ∃ k0, ∃ h0 : k0 < s.size, (∀ k (h : k < s.size), k < k0 → Dig s k h) ∧ ¬ Dig s k0 h0 := by
  suffices H : ∀ n, n ≤ s.size → (∀ k (h : k < s.size), k < n → Dig s k h) ∨ ∃ k0, ∃ h0 : k0 < s.size, (∀ k (h : k < s.size), k < k0 → Dig s k h) ∧ ¬ Dig s k0 h0 by
    rcases H s.size (Nat.le_refl _) with h | h
    · exact .inl fun k hk => h k hk hk
    · exact .inr h
  intro n
  induction n with
  | zero => exact fun _ => .inl fun k _ hk => absurd hk (Nat.not_lt_zero _)
  | succ n ih =>
    intro hn
    rcases ih (by omega) with h | h
    · by_cases hd : Dig s n (by omega)
      · refine .inl fun k hk hkn => ?_
        by_cases e : k = n
        · subst e; exact hd
        · exact h k hk (by omega)
      · exact .inr ⟨n, by omega, h, hd⟩
    · exact .inr h

theorem empty_iff (s : ByteArray) : s.toList.isEmpty = decide (s.size = 0) := by
  rw [ByteArray.toList_eq]
  rcases s with ⟨⟨l⟩⟩
  cases l <;> simp [ByteArray.size]

set_option maxHeartbeats 1000000 in
theorem walk (a0 : ByteArray) (w0 : a0.size ≤ maxLen) (w : World) :
    Calls Try.prog 3 #[.string a0] w fun e w' => e = .returned (.bool true) ∧ Below w.heap.size w w' := by
  by_cases h : a0.size ≤ 1048576
  · by_cases hs : a0.size = 0
    · have he : a0.toList.isEmpty = true := by rw [empty_iff]; simpa using hs
      have HS := hideD hs
      have hs' : a0.size ≤ 0 := by omega
      have hdz : decide (0 < a0.size) = false := decide_eq_false (by omega)
      clear hs
      go_enter Try.func3, Try.ntmps3
      go_wp2_with fail
      refine (bytes1_yes a0 h _).mono ?_
      rintro e w' ⟨rfl, rfl⟩
      go_wp2
      go_loop [3, 4] (fun x i => x = .bool false ∧ i = .int .i64 0) (fun _ _ => 0)
      case atStart => exact ⟨by first | rfl | exact congrArg Value.bool hdz, rfl⟩
      case round =>
        obtain ⟨rfl, rfl⟩ := hrel
        go_wp2_with fail
        refine (zz_empty a0 _ he).mono ?_
        rintro e w1 ⟨rfl, hb⟩
        go_wp2
        go_ret
        exact ⟨rfl, hb⟩
    · have he : a0.toList.isEmpty = false := by rw [empty_iff]; simpa using hs
      have hdz : decide (0 < a0.size) = true := decide_eq_true (by omega)
      have hs' : 1 ≤ a0.size := by omega
      clear hs
      rcases first_bad a0 with hd | ⟨k0, h0, hd, hn⟩
      · go_enter Try.func3, Try.ntmps3
        go_wp2_with fail
        refine (bytes1_yes a0 h _).mono ?_
        rintro e w' ⟨rfl, rfl⟩
        go_wp2
        go_loop [3, 4] (fun x i => ∃ k : Nat, k ≤ a0.size ∧ x = .bool true ∧ i = .int .i64 k) (fun _ i => a0.size - (intOf i).toNat)
        case atStart => exact ⟨0, Nat.zero_le _, by first | rfl | exact congrArg Value.bool hdz, rfl⟩
        case round =>
          obtain ⟨k, hk, rfl, rfl⟩ := hrel
          by_cases hlt : k < a0.size
          · obtain ⟨d1, d2⟩ := hd k hlt
            go_wp2
            go_round
            case rel => exact ⟨k + 1, by omega, rfl, by go_num⟩
            case measure => simp [intOf]; omega
          · go_wp2_with fail
            refine (zz_yes a0 _ he hd).mono ?_
            rintro e w1 ⟨rfl, hb⟩
            go_wp2
            go_ret
            exact ⟨rfl, hb⟩
      · have HN := hideD hn
        clear hn
        go_enter Try.func3, Try.ntmps3
        go_wp2_with fail
        refine (bytes1_yes a0 h _).mono ?_
        rintro e w' ⟨rfl, rfl⟩
        go_wp2
        go_loop [3, 4] (fun x i => ∃ k : Nat, k ≤ a0.size ∧ x = .bool (decide (k ≤ k0)) ∧ i = .int .i64 k) (fun _ i => a0.size - (intOf i).toNat)
        case atStart => exact ⟨0, Nat.zero_le _, congrArg Value.bool (by rw [decide_eq_true (Nat.zero_le k0)]), rfl⟩
        case round =>
          obtain ⟨k, hk, rfl, rfl⟩ := hrel
          by_cases hlt : k < a0.size
          · by_cases hkk : k < k0
            · obtain ⟨d1, d2⟩ := hd k hlt hkk
              have e1 : decide (k ≤ k0) = true := by simp; omega
              have e2 : decide (k + 1 ≤ k0) = true := by simp; omega
              go_wp2
              go_round
              case rel => exact ⟨k + 1, by omega, by rw [e2], by go_num⟩
              case measure => simp [intOf]; omega
            · have e2 : decide (k + 1 ≤ k0) = false := by simp; omega
              by_cases hlo : (a0[k].toNat : Int) < 48
              · go_wp2
                go_round
                case rel => exact ⟨k + 1, by omega, by rw [e2], by go_num⟩
                case measure => simp [intOf]; omega
              · by_cases hhi : 57 < (a0[k].toNat : Int)
                · go_wp2
                  go_round
                  case rel => exact ⟨k + 1, by omega, by rw [e2], by go_num⟩
                  case measure => simp [intOf]; omega
                · have hne : k ≠ k0 := by
                    rintro rfl
                    exact HN.out ⟨by omega, by omega⟩
                  have e1 : decide (k ≤ k0) = false := by simp; omega
                  go_wp2
                  go_round
                  case rel => exact ⟨k + 1, by omega, by rw [e2, e1], by go_num⟩
                  case measure => simp [intOf]; omega
          · have e1 : decide (k ≤ k0) = false := by simp; omega
            go_wp2_with fail
            refine (zz_no a0 _ he k0 h0 hd HN.out).mono ?_
            rintro e w1 ⟨rfl, hb⟩
            go_wp2
            go_ret
            exact ⟨rfl, hb⟩
  · go_enter Try.func3, Try.ntmps3
    go_wp2_with fail
    refine (bytes1_no a0 h w0 _).mono ?_
    rintro e w' ⟨rfl, rfl⟩
    go_wp2
    go_ret
    exact ⟨rfl, Below.refl _ _⟩

/-! ### THE ROW's STEP: WRITTEN OUT: LEAVE IT -/
set_option maxRecDepth 100000 in
theorem lifted (os : Os) (started : os.Started) (H : Type) (enc : TypeId × Value → H) :
    ReturnsInHanded {} Try.checked os 3 .any (Rows.fnDigitsOnlyMatchesByteModelSpec.pre6 enc Try.prog Try.f3 Rows.fnDigitsOnlyMatchesByteModelRow.domain false) (Rows.fnDigitsOnlyMatchesByteModelSpec.post enc Try.prog Try.f3 false true false false) := by
  refine returnsInHanded_of_change (C := Try.checked) own started (by kernel_rfl) Try.func3
    (ChangeSpec.witness6 (enc := enc) (C := Try.checked) false ⟨#[], #[.string ByteArray.empty], []⟩ 8 (by kernel_rfl) (by kernel_rfl) (by kernel_rfl) (by kernel_rfl)) ?_
  intro W base args ds gs before hval0 hW hcnd _
  have hval : ∀ (j : Nat) t v, Try.f3.params[j]? = some t → args[j]? = some v → Value.okWide Try.prog W .any base t v := hval0
  have hW' := hW
  obtain ⟨p, q, hA0, hV, rfl, hfz, hnd⟩ := hW
  have hA : DataW.TrodAll enc Try.prog W 0 (fun _ => true) true Try.f3.params.toList args.toList ds p := hA0
  rw [Try.params3] at hA hval
  obtain ⟨v0, vs0, d0, ds0, p0, q0, hargs, rfl, rfl, h0, r0⟩ := trodAll_cons hA
  obtain ⟨rfl, rfl, rfl⟩ := trodAll_nil r0
  obtain rfl : args = #[v0] := by cases args; simp_all
  obtain ⟨rfl, rfl⟩ := trodVars_none hV
  obtain ⟨a0, rfl, rfl, rfl, w0⟩ := open_string Try.underlying9 (hval 0 9 v0 rfl rfl) h0
  clear hA0 hval0
  refine (walk a0 w0 W).mono fun e W' ⟨he, bel⟩ => ?_
  subst he
  exact ⟨_, rfl, _, _, _, [], _, [], hW', trodAll_mk1 (shut_bool Try.underlying4 _), (trodAll_cons_mk (shut_string Try.underlying9 w0) trodAll_mk0), rfl, bel.frame _, fun h => by cases h⟩

theorem over : Rows.fnDigitsOnlyMatchesByteModelRow.holds Try.pinned (OpenSpec.ofChange Rows.fnDigitsOnlyMatchesByteModelSpec) :=
  OpenClaim.holds_of_wide 3 Try.f3 rfl rfl rfl rfl rfl rfl rfl ⟨rfl, rfl, rfl, rfl, rfl⟩ rfl rfl rfl rfl rfl (by kernel_rfl) Try.func3 (by kernel_rfl)
    (of_decide_eq_true (by kernel_rfl)) (by unfold Func.isWrapper; first | (rw [if_pos (by decide +kernel)]; kernel_rfl) | (rw [if_neg (by decide +kernel)]; exact ⟨rfl, rfl⟩))
    (fun os started H enc _ => lifted os started H enc)

/-- ████ THE STATEMENT ████ -/
theorem proved : Rows.FnDigitsOnlyMatchesByteModelSaid :=
  over
end Go.Proofs.Qxb6601495a.fnDigitsOnlyMatchesByteModel
