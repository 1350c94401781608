/- The proof of 'Rows.FnFieldsLengthWireSizesSaid': the walk over the contracts; the frame after the guide's shell, by 'Below'. -/
import Derived.Test.Qxb6600725aRows
import Derived.Test.Qxb6600725aZz
import Derived.WalkKit
import Derived.ProofKit
import Derived.OpenShut
import Derived.ShutString
import Derived.ChangeOld
import Derived.Below
import Derived.WalkSpells
import Derived.WalkLawsBesides
namespace Go.Proofs.Qxb6600725a.fnFieldsLengthWireSizes
open Go.ChangeShapes Go.WideShapes Go.ChangeAt Go.RowKit
open Go.ChangeMaps (open_string shut_string)
set_option linter.unusedVariables false      -- a walk need not use every 'w<i>' (that an integer argument fits its kind)

theorem own : ownKnob Try.prog.godebug = none := by kernel_rfl

set_option maxHeartbeats 400000 in
theorem bytes_yes (a0 : ByteArray) (a1 : Int) (h : a0.size ≤ 1048576) (w : World) :
    Calls Try.prog 10 #[.string a0, .int .i64 a1] w fun e w' => e = .returned (.bool true) ∧ w' = w := by
  go_enter Try.func10, Try.ntmps10
  go_wp2
  go_ret
  exact ⟨rfl, rfl⟩

set_option maxHeartbeats 400000 in
theorem bytes_no (a0 : ByteArray) (a1 : Int) (h : ¬ a0.size ≤ 1048576) (w0 : a0.size ≤ maxLen) (w : World) :
    Calls Try.prog 10 #[.string a0, .int .i64 a1] w fun e w' => e = .returned (.bool false) ∧ w' = w := by
  unfold maxLen at w0
  go_enter Try.func10, Try.ntmps10
  go_wp2
  go_ret
  exact ⟨rfl, rfl⟩

/-- what a literal's block holds -/
theorem lit_bytes (W : World) (zs : List Int) (e : TypeId) (hz : ∀ j : Nat, 0 ≤ zs[j]?.getD 0 ∧ zs[j]?.getD 0 ≤ 255) :
    Bytes (W.alloc (.cells (zs.map (Value.int .u8)).toArray e)) (some ⟨W.heap.size, 0, none⟩) zs := by
  refine ⟨.inr ⟨W.heap.size, 0, rfl, by simp, fun j hj => ?_⟩, hz⟩
  rw [World.cell?_alloc_at _ _ _ _ rfl]
  simp [hj]

theorem zz_is (nm : ByteArray) (ao : Option Addr) (zs : List Int) (n c : Nat) (r tl : Int) (w : World) (hn : zs.length = n) (hr : tot zs = r) (hl : n ≤ 3) (hz : Bytes w ao zs) :
    Calls Try.prog 8 #[.string nm, .slice ao n c, .int .i64 tl] w fun e w' => e = .returned (.int .i64 r) ∧ Below w.heap.size w w' := by
  subst hn; subst hr
  exact zz_any nm ao zs c tl w (by omega) hz

theorem small (zs : List Int) (h : ∀ z ∈ zs, 0 ≤ z ∧ z ≤ 255) (j : Nat) : 0 ≤ zs[j]?.getD 0 ∧ zs[j]?.getD 0 ≤ 255 := by
  cases e : zs[j]? with
  | none => simp
  | some v => exact h v (List.mem_of_getElem? e)

theorem up {w a b : World} {o : Obj} (h : Below w.heap.size w a) (k : Below (a.alloc o).heap.size (a.alloc o) b) : Below w.heap.size w b :=
  (h.alloc h.size o).trans (k.mono (by have := h.size; simp; omega))

set_option maxHeartbeats 1000000 in
theorem walk (a0 : ByteArray) (a1 : Int) (w0 : a0.size ≤ maxLen) (w1 : (Lit.int .i64 a1).wf = true) (w : World) :
    Calls Try.prog 5 #[.string a0, .int .i64 a1] w fun e w' => e = .returned (.bool true) ∧ Below w.heap.size w w' := by
  by_cases h : a0.size ≤ 1048576
  · go_enter Try.func5, Try.ntmps5
    go_wp2_with fail
    refine (bytes_yes a0 a1 h _).mono ?_
    rintro e w' ⟨rfl, rfl⟩
    go_wp2_with fail
    refine (zz_is a0 none [] 0 0 0 a1 _ rfl rfl (by omega) ⟨.inl rfl, by simp⟩).mono ?_
    rintro e w2 ⟨rfl, hb2⟩
    go_wp2_with fail
    refine (zz_is a0 _ [] 0 0 0 a1 _ rfl rfl (by omega) ⟨.inl rfl, by simp⟩).mono ?_
    rintro e w3 ⟨rfl, hb3⟩
    go_wp2_with fail
    refine (zz_is a0 _ [0] 1 1 4 a1 _ rfl rfl (by omega) (lit_bytes w3 [0] 5 (small _ (by decide)))).mono ?_
    rintro e w4 ⟨rfl, hb4⟩
    go_wp2_with fail
    refine (zz_is a0 _ [0, 1, 2] 3 3 12 a1 _ rfl rfl (by omega) (lit_bytes w4 [0, 1, 2] 5 (small _ (by decide)))).mono ?_
    rintro e w5 ⟨rfl, hb5⟩
    go_wp2_with fail
    refine (zz_is a0 _ [0, 1] 2 2 8 a1 _ rfl rfl (by omega) (lit_bytes w5 [0, 1] 5 (small _ (by decide)))).mono ?_
    rintro e w6 ⟨rfl, hb6⟩
    go_wp2_with fail
    refine (zz_is a0 _ [3] 1 1 1 a1 _ rfl rfl (by omega) (lit_bytes w6 [3] 5 (small _ (by decide)))).mono ?_
    rintro e w7 ⟨rfl, hb7⟩
    go_wp2
    go_ret
    have g3 := up hb2 hb3
    have g4 := up g3 hb4
    have g5 := up g4 hb5
    have g6 := up g5 hb6
    have g7 := up g6 hb7
    exact ⟨rfl, g7⟩
  · go_enter Try.func5, Try.ntmps5
    go_wp2_with fail
    refine (bytes_no a0 a1 h w0 _).mono ?_
    rintro e w' ⟨rfl, rfl⟩
    go_wp2
    go_ret
    exact ⟨rfl, Below.refl _ _⟩

/-! ### THE ROW's STEP: WRITTEN OUT: LEAVE IT -/
set_option maxRecDepth 100000 in
theorem lifted (os : Os) (started : os.Started) (H : Type) (enc : TypeId × Value → H) :
    ReturnsInHanded {} Try.checked os 5 .any (Rows.fnFieldsLengthWireSizesSpec.pre6 enc Try.prog Try.f5 Rows.fnFieldsLengthWireSizesRow.domain false) (Rows.fnFieldsLengthWireSizesSpec.post enc Try.prog Try.f5 false true false false) := by
  refine returnsInHanded_of_change (C := Try.checked) own started (by kernel_rfl) Try.func5
    (ChangeSpec.witness6 (enc := enc) (C := Try.checked) false ⟨#[], #[.string ByteArray.empty, .int .i64 0], []⟩ 8 (by kernel_rfl) (by kernel_rfl) (by kernel_rfl) (by kernel_rfl)) ?_
  intro W base args ds gs before hval0 hW hcnd _
  have hval : ∀ (j : Nat) t v, Try.f5.params[j]? = some t → args[j]? = some v → Value.okWide Try.prog W .any base t v := hval0
  have hW' := hW
  obtain ⟨p, q, hA0, hV, rfl, hfz, hnd⟩ := hW
  have hA : DataW.TrodAll enc Try.prog W 0 (fun _ => true) true Try.f5.params.toList args.toList ds p := hA0
  rw [Try.params5] at hA hval
  obtain ⟨v0, vs0, d0, ds0, p0, q0, hargs, rfl, rfl, h0, r0⟩ := trodAll_cons hA
  obtain ⟨v1, vs1, d1, ds1, p1, q1, rfl, rfl, rfl, h1, r1⟩ := trodAll_cons r0
  obtain ⟨rfl, rfl, rfl⟩ := trodAll_nil r1
  obtain rfl : args = #[v0, v1] := by cases args; simp_all
  obtain ⟨rfl, rfl⟩ := trodVars_none hV
  obtain ⟨a0, rfl, rfl, rfl, w0⟩ := open_string Try.underlying9 (hval 0 9 v0 rfl rfl) h0
  obtain ⟨a1, rfl, rfl, rfl, w1⟩ := open_int Try.underlying3 (hval 1 3 v1 rfl rfl) h1
  clear hA0 hval0
  refine (walk a0 a1 w0 w1 W).mono fun e W' ⟨he, bel⟩ => ?_
  subst he
  exact ⟨_, rfl, _, _, _, [], _, [], hW', trodAll_mk1 (shut_bool Try.underlying4 _), (trodAll_cons_mk (shut_string Try.underlying9 w0) (trodAll_cons_mk (shut_int Try.underlying3 w1) trodAll_mk0)), rfl, bel.frame _, fun h => by cases h⟩

theorem over : Rows.fnFieldsLengthWireSizesRow.holds Try.pinned (OpenSpec.ofChange Rows.fnFieldsLengthWireSizesSpec) :=
  OpenClaim.holds_of_wide 5 Try.f5 rfl rfl rfl rfl rfl rfl rfl ⟨rfl, rfl, rfl, rfl, rfl⟩ rfl rfl rfl rfl rfl (by kernel_rfl) Try.func5 (by kernel_rfl)
    (of_decide_eq_true (by kernel_rfl)) (by unfold Func.isWrapper; first | (rw [if_pos (by decide +kernel)]; kernel_rfl) | (rw [if_neg (by decide +kernel)]; exact ⟨rfl, rfl⟩))
    (fun os started H enc _ => lifted os started H enc)

/-- ████ THE STATEMENT ████ -/
theorem proved : Rows.FnFieldsLengthWireSizesSaid :=
  over
end Go.Proofs.Qxb6600725a.fnFieldsLengthWireSizes
