/- The proof of 'Rows.FnReadVector24ReencodeSaid': the walk over the contracts; the frame is the guide's shell. -/
import Derived.Test.Qxb6601416aRows
import Derived.Test.Qxb6601416aClone
import Derived.Test.Qxb6601416aRead
import Derived.Test.Qxb6601416aAppend
import Derived.Test.Qxb6601416aSame
import Derived.WalkKit
import Derived.ProofKit
import Derived.OpenShut
import Derived.ShutString
import Derived.ChangeOld
import Derived.Below
import Derived.WalkSpells
import Derived.WalkLawsBesides
namespace Go.Proofs.Qxb6601416a.fnReadVector24Reencode
open Go.ChangeShapes Go.WideShapes Go.ChangeAt Go.RowKit
open Go.ChangeMaps (open_string shut_string)
set_option linter.unusedVariables false

theorem own : ownKnob Try.prog.godebug = none := by kernel_rfl
theorem laidOut : laidOutB Try.prog = true := by kernel_rfl

/-- WHAT THE WALK IS TOLD OF A SLICE OF INTEGERS THAT CAME IN: it is nil; or it leads to a row of 'cap' cells, the numbers 'zs' (the first 'len' are its elements, the rest its spare room), each fitting its kind. -/
def IsRow (k : IntKind) (w : World) (a : Option Addr) (len cap : Nat) (zs : List Int) : Prop :=
  (a = none ∧ len = 0 ∧ cap = 0 ∧ zs = []) ∨
  ∃ x, a = some x ∧ len ≤ cap ∧ cap ≤ maxLen ∧ zs.length = cap ∧ (∀ i, i < zs.length → w.cell? (x.add i) = some (.int k (zs.getD i 0))) ∧ ∀ n ∈ zs, (Lit.int k n).wf = true

theorem bounds (n : Int) (h : (Lit.int .u8 n).wf = true) : 0 ≤ n ∧ n ≤ 255 := by
  have := bounds_u8 h
  omega

/-- the elements of a row that came in -/
theorem IsRow.bytes {w : World} {a : Option Addr} {len cap : Nat} {zs : List Int} (h : IsRow .u8 w a len cap zs) : (zs.take len).length = len ∧ len ≤ maxLen ∧ Bytes w a (zs.take len) := by
  rcases h with ⟨rfl, rfl, rfl, rfl⟩ | ⟨x, rfl, hl, hm, hz, hc, hw⟩
  · exact ⟨rfl, Nat.zero_le _, .inl rfl, by simp⟩
  · have hlen : (zs.take len).length = len := by rw [List.length_take]; omega
    refine ⟨hlen, by omega, ?_, ?_⟩
    · by_cases h0 : len = 0
      · left; subst h0; rfl
      · right
        obtain ⟨b, off, rfl, hc'⟩ := ints_at hc (by omega)
        refine ⟨b, off, rfl, ?_, fun j hj => ?_⟩
        · have := hc' 0 (by omega)
          exact World.block_lt_of_cell? _ _ this
        · rw [hc' j (by omega), List.getElem?_take_of_lt (by omega)]
          simp
    · intro j
      cases e : (zs.take len)[j]? with
      | none => simp
      | some v => exact bounds v (hw v (List.mem_of_mem_take (List.mem_of_getElem? e)))

/-- what was read, encoded anew, is what it was read from -/
theorem enc_read (zs : List Int) (hb : ∀ j : Nat, 0 ≤ zs[j]?.getD 0 ∧ zs[j]?.getD 0 ≤ 255) (h3 : 3 ≤ zs.length) (hn : 3 + lenOf zs ≤ zs.length) :
    enc ((zs.drop 3).take (lenOf zs)) = zs.take (3 + lenOf zs) := by
  have hL : ((zs.drop 3).take (lenOf zs)).length = lenOf zs := by rw [List.length_take, List.length_drop]; omega
  match zs, h3 with
  | x :: y :: z :: r, _ =>
    have h0 := hb 0
    have h1 := hb 1
    have h2 := hb 2
    simp only [List.getElem?_cons_zero, List.getElem?_cons_succ, Option.getD_some] at h0 h1 h2
    have e : lenOf (x :: y :: z :: r) = (x * 65536 + y * 256 + z).toNat := by simp [lenOf]
    unfold enc
    rw [hL, Nat.add_comm 3]
    simp only [List.drop_succ_cons, List.drop_zero, List.take_succ_cons, List.cons_append, List.nil_append]
    rw [e]
    have ee : (((x * 65536 + y * 256 + z).toNat : Nat) : Int) = x * 65536 + y * 256 + z := by omega
    rw [ee, show (x * 65536 + y * 256 + z) / 65536 = x by omega, show (x * 65536 + y * 256 + z) / 256 % 256 = y by omega, show (x * 65536 + y * 256 + z) % 256 = z by omega]

set_option maxHeartbeats 1000000 in
theorem walk0 (ao : Option Addr) (cap : Nat) (zs : List Int) (w : World) (hl : zs.length ≤ maxLen) (hz : Bytes w ao zs) :
    Calls Try.prog 3 #[.slice ao zs.length cap] w fun e w' => e = .returned (.bool true) ∧ Below w.heap.size w w' := by
  by_cases h : zs.length ≤ 1048576
  · by_cases hr : 3 ≤ zs.length ∧ 3 + lenOf zs ≤ zs.length
    · obtain ⟨h3, hn⟩ := hr
      have HE := hide (enc_read zs hz.2 h3 hn)
      have hL : ((zs.drop 3).take (lenOf zs)).length = lenOf zs := by rw [List.length_take, List.length_drop]; omega
      have HL := hide hL
      clear hL
      go_enter Try.func3, Try.ntmps3
      go_wp2_with fail
      refine (bytes1_yes ao zs.length cap h _).mono ?_
      rintro e w' ⟨rfl, rfl⟩
      go_wp2_with fail
      refine (copy_any ao zs cap _ h hz).mono ?_
      rintro e w1 ⟨ao', c', rfl, hnc, hlc, hcm, hz1, hb1⟩
      go_wp2_with fail
      refine (zzread_ok ao' zs c' _ (by omega) hlc hcm hz1 h3 hn).mono ?_
      rintro e w2 ⟨a1, n1, c1, a2, n2, c2, rfl, hnc1, rfl, rfl, hz2, hr2, hb2⟩
      go_wp2_with fail
      refine (zzappend_n a1 _ (lenOf zs) c1 _ HL.out.symm (by omega) hnc1 hz2).mono ?_
      rintro e w3 ⟨v, rfl, ho, hb3⟩
      obtain ⟨_, a3, c3, rfl, _, _, hz3⟩ := owned_bytes ho (enc_bytes (by rw [HL.out]; omega) hz2.2)
      rw [HL.out]
      go_wp2_with fail
      refine (same_yes a3 ao' _ zs _ _ c3 c' _ _ _ ?_ rfl ?_ ?_ (by omega) hz3 ((hz1.later hb2).later hb3) ?_ ?_).mono ?_
      · rw [enc_length, HL.out]
      · omega
      · omega
      · rw [HE.out, List.length_take, Nat.min_eq_left hn]; rfl
      · rw [enc_length, HL.out]; simpa using hn
      rintro e w4 ⟨rfl, hb4⟩
      go_wp2_with fail
      refine (same_yes a2 ao' (zs.drop (3 + lenOf zs)) zs _ _ c2 c' _ _ _ ?_ rfl ?_ ?_ (by omega) ((hr2.later hb3).later hb4) (((hz1.later hb2).later hb3).later hb4) ?_ ?_).mono ?_
      · rw [List.length_drop]
      · omega
      · omega
      · rw [show ((3 : Int) + (lenOf zs : Int)).toNat = 3 + lenOf zs by omega, List.take_of_length_le (Nat.le_refl _)]
      · rw [List.length_drop]; omega
      rintro e w5 ⟨rfl, hb5⟩
      go_wp2
      go_ret
      exact ⟨rfl, up (up (up (up hb1 hb2) hb3) hb4) hb5⟩
    · go_enter Try.func3, Try.ntmps3
      go_wp2_with fail
      refine (bytes1_yes ao zs.length cap h _).mono ?_
      rintro e w' ⟨rfl, rfl⟩
      go_wp2_with fail
      refine (copy_any ao zs cap _ h hz).mono ?_
      rintro e w1 ⟨ao', c', rfl, hnc, hlc, hcm, hz1, hb1⟩
      go_wp2_with fail
      refine (zzread_no ao' zs c' _ (by omega) hlc hcm hz1 hr).mono ?_
      rintro e w2 ⟨rfl, hb2⟩
      go_wp2
      go_ret
      exact ⟨rfl, up hb1 hb2⟩
  · go_enter Try.func3, Try.ntmps3
    go_wp2_with fail
    refine (bytes1_no ao zs.length cap h hl _).mono ?_
    rintro e w' ⟨rfl, rfl⟩
    go_wp2
    go_ret
    exact ⟨rfl, Below.refl _ _⟩

theorem walk (a0 : Option Addr) (len0 cap0 : Nat) (z0 : List Int) (w : World) (w0 : IsRow .u8 w a0 len0 cap0 z0) :
    Calls Try.prog 3 #[.slice a0 len0 cap0] w fun e w' => e = .returned (.bool true) ∧ Below w.heap.size w w' := by
  obtain ⟨hl, hm, hb⟩ := w0.bytes
  have := walk0 a0 cap0 (z0.take len0) w (by omega) hb
  rw [hl] at this
  exact this

/-! ### THE ROW's STEP: WRITTEN OUT: LEAVE IT -/
set_option maxRecDepth 100000 in
theorem lifted (os : Os) (started : os.Started) (H : Type) (enc : TypeId × Value → H) :
    ReturnsInHanded {} Try.checked os 3 .any (Rows.fnReadVector24ReencodeSpec.pre6 enc Try.prog Try.f3 Rows.fnReadVector24ReencodeRow.domain false) (Rows.fnReadVector24ReencodeSpec.post enc Try.prog Try.f3 false true false false) := by
  refine returnsInHanded_of_change (C := Try.checked) own started (by kernel_rfl) Try.func3
    (ChangeSpec.witness6 (enc := enc) (C := Try.checked) false ⟨#[], #[.slice none 0 0], []⟩ 8 (by kernel_rfl) (by kernel_rfl) (by kernel_rfl) (by kernel_rfl)) ?_
  intro W base args ds gs before hval0 hW hcnd _
  have hval : ∀ (j : Nat) t v, Try.f3.params[j]? = some t → args[j]? = some v → Value.okWide Try.prog W .any base t v := hval0
  have hW' := hW
  obtain ⟨p, q, hA0, hV, rfl, hfz, hnd⟩ := hW
  have hA : DataW.TrodAll enc Try.prog W 0 (fun _ => true) true Try.f3.params.toList args.toList ds p := hA0
  rw [Try.params3] at hA hval
  obtain ⟨v0, vs0, d0, ds0, p0, q0, hargs, rfl, rfl, h0, r0⟩ := trodAll_cons hA
  obtain ⟨rfl, rfl, rfl⟩ := trodAll_nil r0
  obtain rfl : args = #[v0] := by cases args; simp_all
  obtain ⟨rfl, rfl⟩ := trodVars_none hV
  obtain ⟨a0, len0, cap0, rfl⟩ := okWide_slice Try.underlying22 (hval 0 22 v0 rfl rfl)
  have k0 := h0
  have lt0 : ∀ x ∈ p0, x.block < W.heap.size := by obtain ⟨m, hm⟩ := k0; exact DataW.trod_lt m _ _ _ hm
  obtain ⟨z0, w0⟩ : ∃ zs, IsRow .u8 W a0 len0 cap0 zs := by
    obtain ⟨fuel, hf⟩ := h0
    rcases open_ints Try.underlying22 Try.underlying5 (by kernel_rfl) hf with ⟨hcs, _⟩ | ⟨x, l, c, zs, hcs, _, hl, hm, hz, _, hcell, hwz⟩
    · simp [Value.cells] at hcs
      obtain ⟨rfl, rfl, rfl⟩ := hcs
      exact ⟨[], .inl ⟨rfl, rfl, rfl, rfl⟩⟩
    · simp [Value.cells] at hcs
      obtain ⟨rfl, rfl, rfl⟩ := hcs
      exact ⟨zs, .inr ⟨_, rfl, hl, hm, by simpa using hz, hcell, hwz⟩⟩
  clear hA0 hval0
  refine (walk a0 len0 cap0 z0 W w0).mono fun e W' ⟨he, bel⟩ => ?_
  subst he
  exact ⟨_, rfl, _, _, _, [], _, [], hW', trodAll_mk1 (shut_bool Try.underlying4 _), (trodAll_cons_mk (Below.trod laidOut (by kernel_rfl) (of_decide_eq_true (by kernel_rfl)) k0 bel lt0) trodAll_mk0), rfl, bel.frame _, fun h => by cases h⟩

theorem over : Rows.fnReadVector24ReencodeRow.holds Try.pinned (OpenSpec.ofChange Rows.fnReadVector24ReencodeSpec) :=
  OpenClaim.holds_of_wide 3 Try.f3 rfl rfl rfl rfl rfl rfl rfl ⟨rfl, rfl, rfl, rfl, rfl⟩ rfl rfl rfl rfl rfl (by kernel_rfl) Try.func3 (by kernel_rfl)
    (of_decide_eq_true (by kernel_rfl)) (by unfold Func.isWrapper; first | (rw [if_pos (by decide +kernel)]; kernel_rfl) | (rw [if_neg (by decide +kernel)]; exact ⟨rfl, rfl⟩))
    (fun os started H enc _ => lifted os started H enc)

/-- ████ THE STATEMENT ████ -/
theorem proved : Rows.FnReadVector24ReencodeSaid := over
end Go.Proofs.Qxb6601416a.fnReadVector24Reencode
