/- The proof of 'Rows.FnAppendPaddedMatchesModelSaid': the walk over the contracts; the frame is the guide's shell. -/
import Derived.Test.Qxb6601495aRows
import Derived.Test.Qxb6601495aPad
import Derived.Test.Qxb6601495aClone
import Derived.WalkKit
import Derived.ProofKit
import Derived.OpenShut
import Derived.ShutString
import Derived.ChangeOld
import Derived.Below
import Derived.WalkSpells
import Derived.WalkLawsBesides
namespace Go.Proofs.Qxb6601495a.fnAppendPaddedMatchesModel
open Go.ChangeShapes Go.WideShapes Go.ChangeAt Go.RowKit
open Go.ChangeMaps (open_string shut_string)
set_option linter.unusedVariables false

theorem own : ownKnob Try.prog.godebug = none := by kernel_rfl
theorem laidOut : laidOutB Try.prog = true := by kernel_rfl

/-- WHAT THE WALK IS TOLD OF A SLICE OF INTEGERS THAT CAME IN: it is nil; or it leads to a row of 'cap' cells, the numbers 'zs' (the first 'len' are its elements, the rest its spare room), each fitting its kind. -/
def IsRow (k : IntKind) (w : World) (a : Option Addr) (len cap : Nat) (zs : List Int) : Prop :=
  (a = none ∧ len = 0 ∧ cap = 0 ∧ zs = []) ∨
  ∃ x, a = some x ∧ len ≤ cap ∧ cap ≤ maxLen ∧ zs.length = cap ∧ (∀ i, i < zs.length → w.cell? (x.add i) = some (.int k (zs.getD i 0))) ∧ ∀ n ∈ zs, (Lit.int k n).wf = true

theorem bounds (n : Int) (h : (Lit.int .u8 n).wf = true) : 0 ≤ n ∧ n ≤ 255 := by
  have := bounds_u8 h
  omega

/-- the elements of a row that came in -/
theorem IsRow.bytes {w : World} {a : Option Addr} {len cap : Nat} {zs : List Int} (h : IsRow .u8 w a len cap zs) : (zs.take len).length = len ∧ len ≤ maxLen ∧ Bytes w a (zs.take len) := by
  rcases h with ⟨rfl, rfl, rfl, rfl⟩ | ⟨x, rfl, hl, hm, hz, hc, hw⟩
  · exact ⟨rfl, Nat.zero_le _, .inl rfl, by simp⟩
  · have hlen : (zs.take len).length = len := by rw [List.length_take]; omega
    refine ⟨hlen, by omega, ?_, ?_⟩
    · by_cases h0 : len = 0
      · left; subst h0; rfl
      · right
        obtain ⟨b, off, rfl, hc'⟩ := ints_at hc (by omega)
        refine ⟨b, off, rfl, ?_, fun j hj => ?_⟩
        · have := hc' 0 (by omega)
          exact World.block_lt_of_cell? _ _ this
        · rw [hc' j (by omega), List.getElem?_take_of_lt (by omega)]
          simp
    · intro j
      cases e : (zs.take len)[j]? with
      | none => simp
      | some v => exact bounds v (hw v (List.mem_of_mem_take (List.mem_of_getElem? e)))

theorem one_new (w : World) (x : Value) (e : TypeId) : ∀ j u, [x][j]? = some u → (w.alloc (.cells #[x] e)).cell? ((⟨w.heap.size, 0, none⟩ : Addr).add j) = some u := by
  intro j u hj
  rw [show (⟨w.heap.size, 0, none⟩ : Addr).add j = ⟨w.heap.size, j, none⟩ from by unfold Addr.add; split <;> simp_all, World.cell?_alloc_at _ _ _ _ rfl]
  match j, hj with
  | 0, hj => simpa using hj
  | j + 1, hj => simp at hj

theorem own_below {w W w' : World} {v : Value} {n : Nat} {xs : List Value} (h : Below w.heap.size w W) (hown : W.ownsRow w.heap.size 5 1 v n xs) (hg : W.grownBy w' v.ownBlock) : Below w.heap.size w w' :=
  h.grown hg h.size (fun k hk => (hown.lt k hk).1)

theorem take_snoc (zs : List Int) (k : Nat) (h : k < zs.length) : (zs.take (k + 1)).map (Value.int .u8) = (zs.take k).map (Value.int .u8) ++ [Value.int .u8 zs[k]] := by
  rw [List.take_succ_eq_append_getElem h, List.map_append]
  rfl

theorem more_snoc (zs : List Int) (N W k : Nat) (h : k < W) : (zs ++ (digs N W).take (k + 1)).map (Value.int .u8) = (zs ++ (digs N W).take k).map (Value.int .u8) ++ [Value.int .u8 (dig N W k)] := by
  rw [digs_snoc N W k h, ← List.append_assoc, List.map_append (l₁ := zs ++ (digs N W).take k)]
  rfl

theorem dig_eq (N W k : Nat) : 48 + (N : Int) / (p10 (W - 1 - k) : Int) % 10 = dig N W k := by
  unfold dig p10
  omega

theorem quo_lo (N P : Nat) : (0 : Int) ≤ (N : Int) / (P : Int) := Int.ediv_nonneg (by omega) (by omega)
theorem quo_hi (N P : Nat) (h : N ≤ 10000) : (N : Int) / (P : Int) ≤ 10000 := by
  rw [← Int.natCast_ediv]
  have := Nat.div_le_self N P
  omega

set_option maxHeartbeats 1000000 in
theorem walk_main (ao : Option Addr) (cap : Nat) (zs : List Int) (N W : Nat) (w : World) (hl : zs.length ≤ 1048576) (hz : Bytes w ao zs) (hW : W ≤ 4) (hN : N < p10 W) :
    Calls Try.prog 5 #[.slice ao zs.length cap, .int .u64 N, .int .i64 W] w fun e w' => e = .returned (.bool true) ∧ Below w.heap.size w w' := by
  have h10 : p10 W ≤ 10000 := by unfold p10; exact Nat.pow_le_pow_right (by omega) hW
  obtain ⟨i0, hi, hz0, hz1, hz2⟩ := info_parts info5
  go_enter Try.func5, Try.ntmps5
  go_wp2_with fail
  refine (bytes3_yes ao zs.length cap _ _ hl _).mono ?_
  rintro e w' ⟨rfl, rfl⟩
  go_wp2_with fail
  refine (pow_any _ W _ rfl hW).mono ?_
  rintro e w' ⟨rfl, rfl⟩
  go_wp2_with fail
  refine (copy_any ao zs cap _ hl hz).mono ?_
  rintro e w1 ⟨a1, rfl, t1, hb1⟩
  go_wp2_with (at_make; refine wpList_make_own _ rfl (.const (.int .i64 0)) (.tmp 34) 24 rfl w1.heap.size 5 i0 (.int .u8 0) 1 Try.underlying24 hi hz0 hz1 .i64 .i64 _ (zs.length + W) rfl rfl (by omega) (by rw [hz2]; omega) (by unfold maxLen; omega) (Nat.le_refl _) ?_; intro w2 hown2 hgrow2)
  have hb2 : Below w1.heap.size w1 w2 := (Below.refl _ _).grown hgrow2 (Nat.le_refl _) (by simp)
  clear hgrow2
  go_loopw [7, 8] (fun v i wr => ∃ k : Nat, k ≤ zs.length ∧ i = .int .i64 k ∧ wr.ownsRow w1.heap.size 5 1 v k ((zs.take k).map (Value.int .u8)) ∧ Below w1.heap.size w1 wr) (fun _ i _ => zs.length - (intOf i).toNat)
  case atStart => exact ⟨0, Nat.zero_le _, rfl, by simpa using hown2, hb2⟩
  case round =>
    obtain ⟨k, hk, rfl, hown, hbr⟩ := hrel
    by_cases hlt : k < zs.length
    · obtain ⟨b, off, rfl, hbl, hc⟩ : ∃ b off, a1 = some ⟨b, off, none⟩ ∧ b < w1.heap.size ∧ ∀ j, j < zs.length → w1.cell? ⟨b, off + j, none⟩ = some (.int .u8 (zs[j]?.getD 0)) := by
        rcases t1.1 with h' | h'
        · rw [h'] at hlt; exact absurd hlt (Nat.not_lt_zero _)
        · exact h'
      have hck : wr.cell? ⟨b, off + k, none⟩ = some (.int .u8 zs[k]) := by
        rw [hbr.cell (p := ⟨b, off + k, none⟩) hbl, hc k hlt, List.getElem?_eq_getElem hlt]; rfl
      have HS := hide (take_snoc zs k hlt)
      have hws := hbr.size
      clear hc hown2 hb2
      go_wp2_with (at_builtin; refine wpList_append_own _ rfl (.tmp 42) (.tmp 47) 24 rfl w1.heap.size 5 i0 (.int .u8 0) 1 1 Try.underlying24 hi hz0 hz1 hz2 rfl (by decide) _ _ _ rfl (hown.alloc _) ⟨wr.heap.size, 0, none⟩ 1 1 [.int .u8 zs[k]] rfl rfl (one_new _ _ _) (one_cells [zs[k]]) (by unfold maxLen; omega) (by omega) (by simp; omega) ?_; intro v4 w4 hown4 hgrow4 _)
      go_roundw
      case rel => exact ⟨k + 1, by omega, by go_num, by rw [HS.out]; exact hown4, own_below (hbr.alloc hws _) (hown.alloc _) hgrow4⟩
      case measure => simp [intOf]; omega
    · obtain rfl : k = zs.length := by omega
      rw [List.take_length] at hown
      clear hown2 hb2
      go_wp2_with fail
      go_loopw [7, 9] (fun v i wr => ∃ k : Nat, k ≤ W ∧ i = .int .i64 k ∧ wr.ownsRow w1.heap.size 5 1 v (zs.length + k) ((zs ++ (digs N W).take k).map (Value.int .u8)) ∧ Below w1.heap.size w1 wr) (fun _ i _ => W - (intOf i).toNat)
      case atStart => exact ⟨0, Nat.zero_le _, rfl, by simpa using hown, hbr⟩
      case round =>
        clear hown hbr
        obtain ⟨k, hk, rfl, hown, hbr⟩ := hrel
        by_cases hlt : k < W
        · have HS := hide (more_snoc zs N W k hlt)
          have hD := dig_eq N W k
          have hP : 1 ≤ p10 (W - 1 - k) := Nat.pow_pos (by omega)
          go_wp2_with fail
          refine (pow_any _ (W - 1 - k) _ (by omega) (by omega)).mono ?_
          rintro e w3 ⟨rfl, rfl⟩
          generalize p10 (W - 1 - k) = P at *
          have HD := hide hD
          clear hD
          have hws := hbr.size
          have hq0 : (0 : Int) ≤ (N : Int) / (P : Int) := quo_lo N P
          have hq1 : (N : Int) / (P : Int) ≤ 10000 := quo_hi N P (by omega)
          go_wp2_with (at_builtin; refine wpList_append_own _ rfl (.tmp 54) (.tmp 65) 24 rfl w1.heap.size 5 i0 (.int .u8 0) 1 1 Try.underlying24 hi hz0 hz1 hz2 rfl (by decide) _ _ _ rfl (hown.alloc _) ⟨w3.heap.size, 0, none⟩ 1 1 [.int .u8 (48 + (N : Int) / (P : Int) % 10)] rfl rfl (one_new _ _ _) (one_cells [48 + (N : Int) / (P : Int) % 10]) (by unfold maxLen; omega) (by omega) (by simp; omega) ?_; intro v4 w4 hown4 hgrow4 _)
          go_roundw
          case rel => exact ⟨k + 1, by omega, by go_num, by rw [HS.out, ← HD.out]; exact hown4, own_below (hbr.alloc hws _) (hown.alloc _) hgrow4⟩
          case measure => simp [intOf]; omega
        · obtain rfl : k = W := by omega
          rw [List.take_of_length_le (by rw [digs_length]; exact Nat.le_refl _)] at hown
          obtain ⟨hlen, a5, c5, rfl, _, _, z5⟩ := owned_bytes hown (row_bytes zs N k t1.2)
          have HL := hide hlen
          clear hlen hown
          go_wp2_with fail
          refine (zzpadded_any a1 zs _ _ N k _ rfl rfl hl hW hN (t1.later hbr)).mono ?_
          rintro e w3 ⟨a6, n6, c6, rfl, hn6, z6, hb3⟩
          have HN := hide (hn6.trans HL.out.symm)
          clear hn6
          go_wp2_with fail
          refine (eql_yes a6 a5 (zs ++ digs N k) _ _ c6 c5 _ HN.out HL.out.symm (by rw [HL.out]; omega) z6 (z5.later hb3)).mono ?_
          rintro e w4 ⟨rfl, hb4⟩
          go_wp2
          go_ret
          exact ⟨rfl, up (up (up hb1 hbr) hb3) hb4⟩

theorem walk0 (ao : Option Addr) (cap : Nat) (zs : List Int) (a1 a2 : Int) (w : World) (hl : zs.length ≤ maxLen) (hz : Bytes w ao zs) (b1 : 0 ≤ a1 ∧ a1 ≤ 18446744073709551615) :
    Calls Try.prog 5 #[.slice ao zs.length cap, .int .u64 a1, .int .i64 a2] w fun e w' => e = .returned (.bool true) ∧ Below w.heap.size w w' := by
  by_cases h : zs.length ≤ 1048576
  · by_cases hlo : a2 < 0
    · go_enter Try.func5, Try.ntmps5
      go_wp2_with fail
      refine (bytes3_yes ao zs.length cap _ _ h _).mono ?_
      rintro e w' ⟨rfl, rfl⟩
      go_wp2
      go_ret
      exact ⟨rfl, Below.refl _ _⟩
    · by_cases hhi : 4 < a2
      · go_enter Try.func5, Try.ntmps5
        go_wp2_with fail
        refine (bytes3_yes ao zs.length cap _ _ h _).mono ?_
        rintro e w' ⟨rfl, rfl⟩
        go_wp2
        go_ret
        exact ⟨rfl, Below.refl _ _⟩
      · obtain ⟨W, rfl⟩ := Int.eq_ofNat_of_zero_le (Int.not_lt.1 hlo)
        obtain ⟨N, rfl⟩ := Int.eq_ofNat_of_zero_le b1.1
        have hW : W ≤ 4 := by omega
        clear hlo hhi
        by_cases hN : N < p10 W
        · exact walk_main ao cap zs N W w h hz hW hN
        · go_enter Try.func5, Try.ntmps5
          go_wp2_with fail
          refine (bytes3_yes ao zs.length cap _ _ h _).mono ?_
          rintro e w' ⟨rfl, rfl⟩
          go_wp2_with fail
          refine (pow_any _ W _ rfl hW).mono ?_
          rintro e w' ⟨rfl, rfl⟩
          go_wp2
          go_ret
          exact ⟨rfl, Below.refl _ _⟩
  · go_enter Try.func5, Try.ntmps5
    go_wp2_with fail
    refine (bytes3_no ao zs.length cap _ _ h hl _).mono ?_
    rintro e w' ⟨rfl, rfl⟩
    go_wp2
    go_ret
    exact ⟨rfl, Below.refl _ _⟩

theorem walk (a0 : Option Addr) (len0 cap0 : Nat) (z0 : List Int) (a1 : Int) (a2 : Int) (w : World) (w0 : IsRow .u8 w a0 len0 cap0 z0) (w1 : (Lit.int .u64 a1).wf = true) (w2 : (Lit.int .i64 a2).wf = true) :
    Calls Try.prog 5 #[.slice a0 len0 cap0, .int .u64 a1, .int .i64 a2] w fun e w' => e = .returned (.bool true) ∧ Below w.heap.size w w' := by
  obtain ⟨hl, hm, hb⟩ := w0.bytes
  have b1 := bounds_u64 w1
  have := walk0 a0 cap0 (z0.take len0) a1 a2 w (by omega) hb (by omega)
  rw [hl] at this
  exact this

/-! ### THE ROW's STEP: WRITTEN OUT: LEAVE IT -/
set_option maxRecDepth 100000 in
theorem lifted (os : Os) (started : os.Started) (H : Type) (enc : TypeId × Value → H) :
    ReturnsInHanded {} Try.checked os 5 .any (Rows.fnAppendPaddedMatchesModelSpec.pre6 enc Try.prog Try.f5 Rows.fnAppendPaddedMatchesModelRow.domain false) (Rows.fnAppendPaddedMatchesModelSpec.post enc Try.prog Try.f5 false true false false) := by
  refine returnsInHanded_of_change (C := Try.checked) own started (by kernel_rfl) Try.func5
    (ChangeSpec.witness6 (enc := enc) (C := Try.checked) false ⟨#[], #[.slice none 0 0, .int .u64 0, .int .i64 0], []⟩ 8 (by kernel_rfl) (by kernel_rfl) (by kernel_rfl) (by kernel_rfl)) ?_
  intro W base args ds gs before hval0 hW hcnd _
  have hval : ∀ (j : Nat) t v, Try.f5.params[j]? = some t → args[j]? = some v → Value.okWide Try.prog W .any base t v := hval0
  have hW' := hW
  obtain ⟨p, q, hA0, hV, rfl, hfz, hnd⟩ := hW
  have hA : DataW.TrodAll enc Try.prog W 0 (fun _ => true) true Try.f5.params.toList args.toList ds p := hA0
  rw [Try.params5] at hA hval
  obtain ⟨v0, vs0, d0, ds0, p0, q0, hargs, rfl, rfl, h0, r0⟩ := trodAll_cons hA
  obtain ⟨v1, vs1, d1, ds1, p1, q1, rfl, rfl, rfl, h1, r1⟩ := trodAll_cons r0
  obtain ⟨v2, vs2, d2, ds2, p2, q2, rfl, rfl, rfl, h2, r2⟩ := trodAll_cons r1
  obtain ⟨rfl, rfl, rfl⟩ := trodAll_nil r2
  obtain rfl : args = #[v0, v1, v2] := by cases args; simp_all
  obtain ⟨rfl, rfl⟩ := trodVars_none hV
  obtain ⟨a0, len0, cap0, rfl⟩ := okWide_slice Try.underlying24 (hval 0 24 v0 rfl rfl)
  have k0 := h0
  have lt0 : ∀ x ∈ p0, x.block < W.heap.size := by obtain ⟨m, hm⟩ := k0; exact DataW.trod_lt m _ _ _ hm
  obtain ⟨z0, w0⟩ : ∃ zs, IsRow .u8 W a0 len0 cap0 zs := by
    obtain ⟨fuel, hf⟩ := h0
    rcases open_ints Try.underlying24 Try.underlying5 (by kernel_rfl) hf with ⟨hcs, _⟩ | ⟨x, l, c, zs, hcs, _, hl, hm, hz, _, hcell, hwz⟩
    · simp [Value.cells] at hcs
      obtain ⟨rfl, rfl, rfl⟩ := hcs
      exact ⟨[], .inl ⟨rfl, rfl, rfl, rfl⟩⟩
    · simp [Value.cells] at hcs
      obtain ⟨rfl, rfl, rfl⟩ := hcs
      exact ⟨zs, .inr ⟨_, rfl, hl, hm, by simpa using hz, hcell, hwz⟩⟩
  obtain ⟨a1, rfl, rfl, rfl, w1⟩ := open_int Try.underlying25 (hval 1 25 v1 rfl rfl) h1
  obtain ⟨a2, rfl, rfl, rfl, w2⟩ := open_int Try.underlying3 (hval 2 3 v2 rfl rfl) h2
  clear hA0 hval0
  refine (walk a0 len0 cap0 z0 a1 a2 W w0 w1 w2).mono fun e W' ⟨he, bel⟩ => ?_
  subst he
  exact ⟨_, rfl, _, _, _, [], _, [], hW', trodAll_mk1 (shut_bool Try.underlying4 _), (trodAll_cons_mk (Below.trod laidOut (by kernel_rfl) (of_decide_eq_true (by kernel_rfl)) k0 bel lt0) (trodAll_cons_mk (shut_int Try.underlying25 w1) (trodAll_cons_mk (shut_int Try.underlying3 w2) trodAll_mk0))), rfl, bel.frame _, fun h => by cases h⟩

theorem over : Rows.fnAppendPaddedMatchesModelRow.holds Try.pinned (OpenSpec.ofChange Rows.fnAppendPaddedMatchesModelSpec) :=
  OpenClaim.holds_of_wide 5 Try.f5 rfl rfl rfl rfl rfl rfl rfl ⟨rfl, rfl, rfl, rfl, rfl⟩ rfl rfl rfl rfl rfl (by kernel_rfl) Try.func5 (by kernel_rfl)
    (of_decide_eq_true (by kernel_rfl)) (by unfold Func.isWrapper; first | (rw [if_pos (by decide +kernel)]; kernel_rfl) | (rw [if_neg (by decide +kernel)]; exact ⟨rfl, rfl⟩))
    (fun os started H enc _ => lifted os started H enc)

/-- ████ THE STATEMENT ████ -/
theorem proved : Rows.FnAppendPaddedMatchesModelSaid := over
end Go.Proofs.Qxb6601495a.fnAppendPaddedMatchesModel
