/-
  Seat b6600725a: contracts of field.size (12), layout.fieldsLength (11), ZZFieldsLength (8).
-/
import Derived.Test.Qxb6600725aChecked
import Derived.Test.Qxb6600725aPlain
import Derived.WalkKit
import Derived.WalkSpells
import Derived.WalkLawsBesides
namespace Go.Proofs.Qxb6600725a
open Go.RowKit

set_option maxHeartbeats 400000 in
theorem size_any (z : Int) (w : World) :
    Calls Try.prog 12 #[.int .u8 z] w fun e w' => e = .returned (.int .i64 (fsz z)) ∧ w' = w := by
  by_cases h : z = 3
  · have h' : (z == 3) = true := by simp [h]
    go_enter Try.func12, Try.ntmps12
    go_wp2
    go_ret
    exact ⟨ret_int (by simp [fsz, h]), rfl⟩
  · have h' : (z == 3) = false := by simp [h]
    go_enter Try.func12, Try.ntmps12
    go_wp2
    go_ret
    exact ⟨ret_int (by simp [fsz, h]), rfl⟩

set_option maxHeartbeats 400000 in
theorem fieldsLength_any (nm : ByteArray) (ao : Option Addr) (zs : List Int) (c : Nat) (tl : Int) (w : World) (hl : zs.length ≤ 1048576) (hz : Bytes w ao zs) :
    Calls Try.prog 11 #[.agg #[.string nm, .slice ao zs.length c, .int .i64 tl]] w fun e w' => e = .returned (.int .i64 (tot zs)) ∧ Below w.heap.size w w' := by
  rcases hz.1 with rfl | ⟨b, off, rfl, hlt, hc⟩
  · go_enter Try.func11, Try.ntmps11
    go_wp2
    go_loop [3, 9] (fun n i => i = .int .i64 0 ∧ n = .int .i64 0) (fun _ _ => 0)
    case atStart => exact ⟨rfl, rfl⟩
    case round =>
      obtain ⟨rfl, rfl⟩ := hrel
      go_wp2
      go_ret
      exact ⟨ret_int (by simp [tot]), (Below.refl _ _).alloc (Nat.le_refl _) _⟩
  · go_enter Try.func11, Try.ntmps11
    go_wp2
    go_loop [3, 5, 9] (fun n f i => ∃ k : Nat, k ≤ zs.length ∧ i = .int .i64 k ∧ n = .int .i64 (tot (zs.take k))) (fun _ _ i => zs.length - (intOf i).toNat)
    case atStart => exact ⟨0, Nat.zero_le _, rfl, rfl⟩
    case round =>
      obtain ⟨k, hk, rfl, rfl⟩ := hrel
      have hd := tot_bd (zs.take k)
      have hlk : (zs.take k).length ≤ k := List.length_take_le _ _
      by_cases hlt2 : k < zs.length
      · have hck := hc k hlt2
        have hs := fsz_bd zs[k]
        have HS : Hid (tot (zs.take (k + 1)) = tot (zs.take k) + fsz zs[k]) := by have := tot_snoc zs k hlt2; rw [List.getElem?_eq_getElem hlt2] at this; exact this
        have hne : b ≠ w.heap.size := by omega
        go_wp2_with (go_at_call 12; refine (size_any _ _).mono ?_; rintro e w' ⟨rfl, rfl⟩)
        go_round
        case rel => exact ⟨k + 1, by omega, by go_num, by rw [HS.out]⟩
        case measure => simp [intOf]; omega
      · go_wp2
        go_ret
        exact ⟨ret_int (by rw [List.take_of_length_le (by omega)]), (Below.refl _ _).alloc (Nat.le_refl _) _⟩

theorem info29 : (Try.prog.info? 29).map (fun i => (i.zero, i.size, i.bytes)) = some (some (.int .u8 0), 1, 1) := by kernel_rfl

set_option maxHeartbeats 400000 in
theorem zz_any (nm : ByteArray) (ao : Option Addr) (zs : List Int) (c : Nat) (tl : Int) (w : World) (hl : zs.length ≤ 1048576) (hz : Bytes w ao zs) :
    Calls Try.prog 8 #[.string nm, .slice ao zs.length c, .int .i64 tl] w fun e w' => e = .returned (.int .i64 (tot zs)) ∧ Below w.heap.size w w' := by
  have hnq := fun (w : World) (a : Option Addr) (n c : Nat) => run_neq_slice_nil_any (P := Try.prog) w 22 5 a n c 0 0 Try.underlying22
  obtain ⟨i0, hi, hz0, hz1, hz2⟩ := info_parts info29
  rcases ao with _ | a
  · obtain rfl : zs = [] := by rcases hz.1 with h | ⟨b, off, h, _⟩; exact h; cases h
    go_enter Try.func8, Try.ntmps8
    go_wp2
    go_loop [8] (fun i => i = .int .i64 0) (fun _ => 0)
    case atStart => rfl
    case round =>
      subst hrel
      go_wp2_with fail
      refine (fieldsLength_any nm none [] 0 tl _ (by simp) hz).mono ?_
      rintro e w' ⟨rfl, hb⟩
      go_wp2
      go_ret
      exact ⟨rfl, hb⟩
  · rcases hz.1 with rfl | ⟨b, off, h, hlt, hc⟩
    · go_enter Try.func8, Try.ntmps8
      go_wp2_with (at_make; refine wpList_make_full _ rfl (.tmp 12) (.tmp 12) 28 rfl w.heap.size 29 i0 (.int .u8 0) 1 Try.underlying28 hi hz0 hz1 .i64 .i64 _ _ 0 rfl rfl rfl rfl (by omega) (by unfold maxLen; omega) (Nat.le_refl _) ?_; intro w1 hown hgrow)
      have hb1 : Below w.heap.size w w1 := (Below.refl _ _).grown hgrow (Nat.le_refl _) (by simp)
      clear hown hgrow
      go_loop [8] (fun i => i = .int .i64 0) (fun _ => 0)
      case atStart => rfl
      case round =>
        subst hrel
        go_wp2_with fail
        refine (fieldsLength_any nm _ [] 0 tl _ (by simp) ⟨.inl rfl, by simp⟩).mono ?_
        rintro e w' ⟨rfl, hb⟩
        go_wp2
        go_ret
        exact ⟨rfl, hb1.trans (hb.mono hb1.size)⟩
    · obtain rfl : a = ⟨b, off, none⟩ := by simpa using h
      go_enter Try.func8, Try.ntmps8
      go_wp2_with (at_make; refine wpList_make_full _ rfl (.tmp 12) (.tmp 12) 28 rfl w.heap.size 29 i0 (.int .u8 0) 1 Try.underlying28 hi hz0 hz1 .i64 .i64 _ _ zs.length rfl rfl rfl rfl (by rw [hz2]; omega) (by unfold maxLen; omega) (Nat.le_refl _) ?_; intro w1 hown hgrow)
      have hb1 : Below w.heap.size w w1 := (Below.refl _ _).grown hgrow (Nat.le_refl _) (by simp)
      have hf1 := Filled.start zs hown
      have hzb := hz.2
      have hlt1 : w.heap.size < w1.heap.size := (hown.lt w.heap.size rfl).2
      clear hown hgrow h
      go_loopw [8] (fun i wr => ∃ k : Nat, k ≤ zs.length ∧ i = .int .i64 k ∧ Filled wr w.heap.size w.heap.size 29 zs.length zs k ∧ Below w.heap.size w wr) (fun i _ => zs.length - (intOf i).toNat)
      case atStart => exact ⟨0, Nat.zero_le _, rfl, hf1, hb1⟩
      case round =>
        obtain ⟨k, hk, rfl, hfr, hbr⟩ := hrel
        by_cases hlt2 : k < zs.length
        · have hck : wr.cell? ⟨b, off + k, none⟩ = some (.int .u8 zs[k]) := by
            rw [(hbr.cell (p := ⟨b, off + k, none⟩) hlt), hc k hlt2, List.getElem?_eq_getElem hlt2]; rfl
          obtain ⟨v, hcv⟩ := hfr.cell hlt2
          have hfz := hfr.frozen
          have hst := hfr.step hlt2
          rw [List.getElem?_eq_getElem hlt2] at hst
          go_wp2
          go_roundw
          case rel => exact ⟨k + 1, by omega, by go_num, hst, hbr.setCell (Nat.le_refl _) _⟩
          case measure => simp [intOf]; omega
        · obtain rfl : k = zs.length := by omega
          have hby := hfr.bytes rfl hzb
          go_wp2_with fail
          refine (fieldsLength_any nm _ zs _ tl _ hl hby).mono ?_
          rintro e w' ⟨rfl, hb⟩
          go_wp2
          go_ret
          exact ⟨rfl, hbr.trans (hb.mono hbr.size)⟩

end Go.Proofs.Qxb6600725a
