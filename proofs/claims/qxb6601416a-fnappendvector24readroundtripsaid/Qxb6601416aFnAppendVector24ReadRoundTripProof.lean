/- The proof of 'Rows.FnAppendVector24ReadRoundTripSaid': the walk over the contracts; the frame is the guide's shell. -/
import Derived.Test.Qxb6601416aRows
import Derived.Test.Qxb6601416aClone
import Derived.Test.Qxb6601416aRead
import Derived.Test.Qxb6601416aAppend
import Derived.Test.Qxb6601416aSame
import Derived.WalkKit
import Derived.ProofKit
import Derived.OpenShut
import Derived.ShutString
import Derived.ChangeOld
import Derived.Below
import Derived.WalkSpells
import Derived.WalkLawsBesides
namespace Go.Proofs.Qxb6601416a.fnAppendVector24ReadRoundTrip
open Go.ChangeShapes Go.WideShapes Go.ChangeAt Go.RowKit
open Go.ChangeMaps (open_string shut_string)
set_option linter.unusedVariables false

theorem own : ownKnob Try.prog.godebug = none := by kernel_rfl
theorem laidOut : laidOutB Try.prog = true := by kernel_rfl

/-- WHAT THE WALK IS TOLD OF A SLICE OF INTEGERS THAT CAME IN: it is nil; or it leads to a row of 'cap' cells, the numbers 'zs' (the first 'len' are its elements, the rest its spare room), each fitting its kind. -/
def IsRow (k : IntKind) (w : World) (a : Option Addr) (len cap : Nat) (zs : List Int) : Prop :=
  (a = none ∧ len = 0 ∧ cap = 0 ∧ zs = []) ∨
  ∃ x, a = some x ∧ len ≤ cap ∧ cap ≤ maxLen ∧ zs.length = cap ∧ (∀ i, i < zs.length → w.cell? (x.add i) = some (.int k (zs.getD i 0))) ∧ ∀ n ∈ zs, (Lit.int k n).wf = true

theorem bounds (n : Int) (h : (Lit.int .u8 n).wf = true) : 0 ≤ n ∧ n ≤ 255 := by
  have := bounds_u8 h
  omega

/-- the elements of a row that came in -/
theorem IsRow.bytes {w : World} {a : Option Addr} {len cap : Nat} {zs : List Int} (h : IsRow .u8 w a len cap zs) : (zs.take len).length = len ∧ len ≤ maxLen ∧ Bytes w a (zs.take len) := by
  rcases h with ⟨rfl, rfl, rfl, rfl⟩ | ⟨x, rfl, hl, hm, hz, hc, hw⟩
  · exact ⟨rfl, Nat.zero_le _, .inl rfl, by simp⟩
  · have hlen : (zs.take len).length = len := by rw [List.length_take]; omega
    refine ⟨hlen, by omega, ?_, ?_⟩
    · by_cases h0 : len = 0
      · left; subst h0; rfl
      · right
        obtain ⟨b, off, rfl, hc'⟩ := ints_at hc (by omega)
        refine ⟨b, off, rfl, ?_, fun j hj => ?_⟩
        · have := hc' 0 (by omega)
          exact World.block_lt_of_cell? _ _ this
        · rw [hc' j (by omega), List.getElem?_take_of_lt (by omega)]
          simp
    · intro j
      cases e : (zs.take len)[j]? with
      | none => simp
      | some v => exact bounds v (hw v (List.mem_of_mem_take (List.mem_of_getElem? e)))

theorem lenOf_enc (ds ts : List Int) (h : ds.length ≤ 1048576) : lenOf (enc ds ++ ts) = ds.length := by
  simp only [lenOf, enc, List.cons_append, List.nil_append, List.getElem?_cons_zero, List.getElem?_cons_succ, Option.getD_some]
  omega
theorem drop_enc (ds ts : List Int) : ((enc ds ++ ts).drop 3).take ds.length = ds := by
  simp [enc]
theorem rest_enc (ds ts : List Int) : (enc ds ++ ts).drop (3 + ds.length) = ts := by
  rw [← enc_length, List.drop_left]

theorem zzread_n (ao : Option Addr) (zs : List Int) (n c : Nat) (w : World) (hn : n = zs.length) (hl : zs.length ≤ 1048579) (hlc : n ≤ c) (hcm : c ≤ maxLen) (hz : Bytes w ao zs) (h3 : 3 ≤ zs.length) (hN : 3 + lenOf zs ≤ zs.length) :
    Calls Try.prog 7 #[.slice ao n c] w fun e w' => ReadOk zs (lenOf zs) w e w' := by
  subst hn
  exact zzread_ok ao zs c w hl hlc hcm hz h3 hN

theorem one_new (w : World) (x : Value) (e : TypeId) : ∀ j u, [x][j]? = some u → (w.alloc (.cells #[x] e)).cell? ((⟨w.heap.size, 0, none⟩ : Addr).add j) = some u := by
  intro j u hj
  rw [show (⟨w.heap.size, 0, none⟩ : Addr).add j = ⟨w.heap.size, j, none⟩ from by unfold Addr.add; split <;> simp_all, World.cell?_alloc_at _ _ _ _ rfl]
  match j, hj with
  | 0, hj => simpa using hj
  | j + 1, hj => simp at hj

theorem both_bytes {ds ts : List Int} (hl : ds.length ≤ 1048576) (h : ∀ j : Nat, 0 ≤ ds[j]?.getD 0 ∧ ds[j]?.getD 0 ≤ 255) (k : ∀ j : Nat, 0 ≤ ts[j]?.getD 0 ∧ ts[j]?.getD 0 ≤ 255) : ∀ j : Nat, 0 ≤ (enc ds ++ ts)[j]?.getD 0 ∧ (enc ds ++ ts)[j]?.getD 0 ≤ 255 := by
  refine getD_bytes fun z hz => ?_
  rcases List.mem_append.1 hz with hz | hz
  · exact bytes_mem (enc_bytes hl h) z hz
  · exact bytes_mem k z hz

theorem take_snoc (ds ts : List Int) (k : Nat) (h : k < ts.length) : (enc ds ++ ts.take (k + 1)).map (Value.int .u8) = (enc ds ++ ts.take k).map (Value.int .u8) ++ [Value.int .u8 ts[k]] := by
  rw [List.take_succ_eq_append_getElem h, ← List.append_assoc, List.map_append (l₁ := enc ds ++ ts.take k)]
  rfl

set_option maxHeartbeats 1000000 in
theorem walk0 (ao : Option Addr) (cap : Nat) (ds : List Int) (bo : Option Addr) (cbp : Nat) (ts : List Int) (w : World) (hl : ds.length ≤ maxLen) (kl : ts.length ≤ maxLen) (hz : Bytes w ao ds) (kz : Bytes w bo ts) :
    Calls Try.prog 4 #[.slice ao ds.length cap, .slice bo ts.length cbp] w fun e w' => e = .returned (.bool true) ∧ Below w.heap.size w w' := by
  by_cases h : ds.length + ts.length ≤ 1048576
  · by_cases h1 : ds.length ≤ 524288
    · by_cases h2 : ts.length ≤ 524288
      · obtain ⟨i0, hi, hz0, hz1, hz2⟩ := info_parts info5
        go_enter Try.func4, Try.ntmps4
        go_wp2_with fail
        refine (bytes2_yes ao ds.length cap bo ts.length cbp h _).mono ?_
        rintro e w' ⟨rfl, rfl⟩
        go_wp2_with fail
        refine (copy_any ao ds cap _ (by omega) hz).mono ?_
        rintro e w1 ⟨a1, c1, rfl, n1, l1, m1, d1, hb1⟩
        go_wp2_with fail
        refine (copy_any bo ts cbp _ (by omega) (kz.later hb1)).mono ?_
        rintro e w2 ⟨a2, c2, rfl, n2, l2, m2, t2, hb2⟩
        go_wp2_with fail
        refine (zzappend_n a1 ds ds.length c1 _ rfl (by omega) n1 (d1.later hb2)).mono ?_
        rintro e w3 ⟨v, rfl, ho, hb3⟩
        go_wp2_with fail
        go_loopw [5, 6] (fun v i wr => ∃ k : Nat, k ≤ ts.length ∧ i = .int .i64 k ∧ wr.ownsRow w2.heap.size 5 1 v (3 + ds.length + k) ((enc ds ++ ts.take k).map (Value.int .u8)) ∧ Below w2.heap.size w2 wr) (fun _ i _ => ts.length - (intOf i).toNat)
        case atStart => exact ⟨0, Nat.zero_le _, rfl, by simpa using ho, hb3⟩
        case round =>
          obtain ⟨k, hk, rfl, hown, hbr⟩ := hrel
          by_cases hlt : k < ts.length
          · obtain ⟨b, off, rfl, hbl, hc⟩ : ∃ b off, a2 = some ⟨b, off, none⟩ ∧ b < w2.heap.size ∧ ∀ j, j < ts.length → w2.cell? ⟨b, off + j, none⟩ = some (.int .u8 (ts[j]?.getD 0)) := by
              rcases t2.1 with h' | h'
              · rw [h'] at hlt; exact absurd hlt (Nat.not_lt_zero _)
              · exact h'
            have hck : wr.cell? ⟨b, off + k, none⟩ = some (.int .u8 ts[k]) := by
              rw [hbr.cell (p := ⟨b, off + k, none⟩) hbl, hc k hlt, List.getElem?_eq_getElem hlt]; rfl
            have HS := hide (take_snoc ds ts k hlt)
            have hws := hbr.size
            clear hc ho hb3 n1 n2
            go_wp2_with (at_builtin; refine wpList_append_own _ rfl (.tmp 34) (.tmp 39) 22 rfl w2.heap.size 5 i0 (.int .u8 0) 1 1 Try.underlying22 hi hz0 hz1 hz2 rfl (by decide) _ _ _ rfl (hown.alloc _) ⟨wr.heap.size, 0, none⟩ 1 1 [.int .u8 ts[k]] rfl rfl (one_new _ _ _) (one_cells [ts[k]]) (by unfold maxLen; omega) (by omega) (by simp; omega) ?_; intro v4 w4 hown4 hgrow4 _)
            go_roundw
            case rel => exact ⟨k + 1, by omega, by go_num, by rw [HS.out]; exact hown4, own_below (hbr.alloc hws _) (hown.alloc _) hgrow4⟩
            case measure => simp [intOf]; omega
          · obtain rfl : k = ts.length := by omega
            rw [List.take_length] at hown
            obtain ⟨hN, a4, c4, rfl, l4, m4, z4⟩ := owned_bytes hown (both_bytes (by omega) d1.2 t2.2)
            have HN := hide hN.symm
            have hle : (enc ds ++ ts).length = 3 + ds.length + ts.length := hN
            have HLE := hide hle
            clear hN hle hown ho hb3
            go_wp2_with fail
            refine (zzread_n a4 (enc ds ++ ts) _ c4 _ HN.out (by rw [HLE.out]; omega) l4 m4 z4 (by rw [HLE.out]; omega) (by rw [HLE.out, lenOf_enc ds ts (by omega)]; omega)).mono ?_
            rw [lenOf_enc ds ts (by omega)]
            rintro e w5 ⟨a5, n5, c5, a6, n6, c6, rfl, nc5, rfl, en6, z5, z6, hb5⟩
            rw [drop_enc] at z5
            rw [rest_enc] at z6
            rw [HLE.out, Nat.add_sub_cancel_left] at en6
            subst en6
            go_wp2_with fail
            refine (same_yes a5 a1 ds ds _ _ c5 c1 _ _ _ rfl rfl (by omega) rfl (by omega) z5 ((((d1.later hb2).later hbr)).later hb5) ?_ ?_).mono ?_
            · simp
            · simp
            rintro e w6 ⟨rfl, hb6⟩
            go_wp2_with fail
            refine (same_yes a6 a2 ts ts _ _ c6 c2 _ _ _ rfl rfl (by omega) rfl (by omega) (z6.later hb6) (((t2.later hbr).later hb5).later hb6) ?_ ?_).mono ?_
            · simp
            · simp
            rintro e w7 ⟨rfl, hb7⟩
            go_wp2
            go_ret
            exact ⟨rfl, up (up (up (up (up hb1 hb2) hbr) hb5) hb6) hb7⟩
      · go_enter Try.func4, Try.ntmps4
        go_wp2_with fail
        refine (bytes2_yes ao ds.length cap bo ts.length cbp h _).mono ?_
        rintro e w' ⟨rfl, rfl⟩
        go_wp2
        go_ret
        exact ⟨rfl, Below.refl _ _⟩
    · go_enter Try.func4, Try.ntmps4
      go_wp2_with fail
      refine (bytes2_yes ao ds.length cap bo ts.length cbp h _).mono ?_
      rintro e w' ⟨rfl, rfl⟩
      go_wp2
      go_ret
      exact ⟨rfl, Below.refl _ _⟩
  · go_enter Try.func4, Try.ntmps4
    go_wp2_with fail
    refine (bytes2_no ao ds.length cap bo ts.length cbp h hl kl _).mono ?_
    rintro e w' ⟨rfl, rfl⟩
    go_wp2
    go_ret
    exact ⟨rfl, Below.refl _ _⟩

theorem walk (a0 : Option Addr) (len0 cap0 : Nat) (z0 : List Int) (a1 : Option Addr) (len1 cap1 : Nat) (z1 : List Int) (w : World) (w0 : IsRow .u8 w a0 len0 cap0 z0) (w1 : IsRow .u8 w a1 len1 cap1 z1) :
    Calls Try.prog 4 #[.slice a0 len0 cap0, .slice a1 len1 cap1] w fun e w' => e = .returned (.bool true) ∧ Below w.heap.size w w' := by
  obtain ⟨hl0, hm0, hb0⟩ := w0.bytes
  obtain ⟨hl1, hm1, hb1⟩ := w1.bytes
  have := walk0 a0 cap0 (z0.take len0) a1 cap1 (z1.take len1) w (by omega) (by omega) hb0 hb1
  rw [hl0, hl1] at this
  exact this

/-! ### THE ROW's STEP: WRITTEN OUT: LEAVE IT -/
set_option maxRecDepth 100000 in
theorem lifted (os : Os) (started : os.Started) (H : Type) (enc : TypeId × Value → H) :
    ReturnsInHanded {} Try.checked os 4 .any (Rows.fnAppendVector24ReadRoundTripSpec.pre6 enc Try.prog Try.f4 Rows.fnAppendVector24ReadRoundTripRow.domain false) (Rows.fnAppendVector24ReadRoundTripSpec.post enc Try.prog Try.f4 false true false false) := by
  refine returnsInHanded_of_change (C := Try.checked) own started (by kernel_rfl) Try.func4
    (ChangeSpec.witness6 (enc := enc) (C := Try.checked) false ⟨#[], #[.slice none 0 0, .slice none 0 0], []⟩ 8 (by kernel_rfl) (by kernel_rfl) (by kernel_rfl) (by kernel_rfl)) ?_
  intro W base args ds gs before hval0 hW hcnd _
  have hval : ∀ (j : Nat) t v, Try.f4.params[j]? = some t → args[j]? = some v → Value.okWide Try.prog W .any base t v := hval0
  have hW' := hW
  obtain ⟨p, q, hA0, hV, rfl, hfz, hnd⟩ := hW
  have hA : DataW.TrodAll enc Try.prog W 0 (fun _ => true) true Try.f4.params.toList args.toList ds p := hA0
  rw [Try.params4] at hA hval
  obtain ⟨v0, vs0, d0, ds0, p0, q0, hargs, rfl, rfl, h0, r0⟩ := trodAll_cons hA
  obtain ⟨v1, vs1, d1, ds1, p1, q1, rfl, rfl, rfl, h1, r1⟩ := trodAll_cons r0
  obtain ⟨rfl, rfl, rfl⟩ := trodAll_nil r1
  obtain rfl : args = #[v0, v1] := by cases args; simp_all
  obtain ⟨rfl, rfl⟩ := trodVars_none hV
  obtain ⟨a0, len0, cap0, rfl⟩ := okWide_slice Try.underlying22 (hval 0 22 v0 rfl rfl)
  have k0 := h0
  have lt0 : ∀ x ∈ p0, x.block < W.heap.size := by obtain ⟨m, hm⟩ := k0; exact DataW.trod_lt m _ _ _ hm
  obtain ⟨z0, w0⟩ : ∃ zs, IsRow .u8 W a0 len0 cap0 zs := by
    obtain ⟨fuel, hf⟩ := h0
    rcases open_ints Try.underlying22 Try.underlying5 (by kernel_rfl) hf with ⟨hcs, _⟩ | ⟨x, l, c, zs, hcs, _, hl, hm, hz, _, hcell, hwz⟩
    · simp [Value.cells] at hcs
      obtain ⟨rfl, rfl, rfl⟩ := hcs
      exact ⟨[], .inl ⟨rfl, rfl, rfl, rfl⟩⟩
    · simp [Value.cells] at hcs
      obtain ⟨rfl, rfl, rfl⟩ := hcs
      exact ⟨zs, .inr ⟨_, rfl, hl, hm, by simpa using hz, hcell, hwz⟩⟩
  obtain ⟨a1, len1, cap1, rfl⟩ := okWide_slice Try.underlying22 (hval 1 22 v1 rfl rfl)
  have k1 := h1
  have lt1 : ∀ x ∈ p1, x.block < W.heap.size := by obtain ⟨m, hm⟩ := k1; exact DataW.trod_lt m _ _ _ hm
  obtain ⟨z1, w1⟩ : ∃ zs, IsRow .u8 W a1 len1 cap1 zs := by
    obtain ⟨fuel, hf⟩ := h1
    rcases open_ints Try.underlying22 Try.underlying5 (by kernel_rfl) hf with ⟨hcs, _⟩ | ⟨x, l, c, zs, hcs, _, hl, hm, hz, _, hcell, hwz⟩
    · simp [Value.cells] at hcs
      obtain ⟨rfl, rfl, rfl⟩ := hcs
      exact ⟨[], .inl ⟨rfl, rfl, rfl, rfl⟩⟩
    · simp [Value.cells] at hcs
      obtain ⟨rfl, rfl, rfl⟩ := hcs
      exact ⟨zs, .inr ⟨_, rfl, hl, hm, by simpa using hz, hcell, hwz⟩⟩
  clear hA0 hval0
  refine (walk a0 len0 cap0 z0 a1 len1 cap1 z1 W w0 w1).mono fun e W' ⟨he, bel⟩ => ?_
  subst he
  exact ⟨_, rfl, _, _, _, [], _, [], hW', trodAll_mk1 (shut_bool Try.underlying4 _), (trodAll_cons_mk (Below.trod laidOut (by kernel_rfl) (of_decide_eq_true (by kernel_rfl)) k0 bel lt0) (trodAll_cons_mk (Below.trod laidOut (by kernel_rfl) (of_decide_eq_true (by kernel_rfl)) k1 bel lt1) trodAll_mk0)), rfl, bel.frame _, fun h => by cases h⟩

theorem over : Rows.fnAppendVector24ReadRoundTripRow.holds Try.pinned (OpenSpec.ofChange Rows.fnAppendVector24ReadRoundTripSpec) :=
  OpenClaim.holds_of_wide 4 Try.f4 rfl rfl rfl rfl rfl rfl rfl ⟨rfl, rfl, rfl, rfl, rfl⟩ rfl rfl rfl rfl rfl (by kernel_rfl) Try.func4 (by kernel_rfl)
    (of_decide_eq_true (by kernel_rfl)) (by unfold Func.isWrapper; first | (rw [if_pos (by decide +kernel)]; kernel_rfl) | (rw [if_neg (by decide +kernel)]; exact ⟨rfl, rfl⟩))
    (fun os started H enc _ => lifted os started H enc)

/-- ████ THE STATEMENT ████ -/
theorem proved : Rows.FnAppendVector24ReadRoundTripSaid := over
end Go.Proofs.Qxb6601416a.fnAppendVector24ReadRoundTrip
