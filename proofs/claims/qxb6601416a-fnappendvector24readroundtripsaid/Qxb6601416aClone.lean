/-
  Seat b6601416a: contracts of ctlogB1Clone (6) and the two zzBytes (5, 10).
-/
import Derived.Test.Qxb6601416aChecked
import Derived.Test.Qxb6601416aPlain
import Derived.WalkKit
import Derived.WalkSpells
import Derived.WalkLawsBesides
namespace Go.Proofs.Qxb6601416a
open Go.RowKit

theorem info5 : (Try.prog.info? 5).map (fun i => (i.zero, i.size, i.bytes)) = some (some (.int .u8 0), 1, 1) := by kernel_rfl

/-- what ctlogB1Clone leaves: a slice of the same bytes, made anew or nil -/
def Copied (zs : List Int) (w : World) (e : Ending) (w' : World) : Prop :=
  ∃ ao' c', e = .returned (.slice ao' zs.length c') ∧ (ao' = none → c' = 0) ∧ zs.length ≤ c' ∧ c' ≤ maxLen ∧ Bytes w' ao' zs ∧ Below w.heap.size w w'

set_option maxHeartbeats 400000 in
theorem copy_any (ao : Option Addr) (zs : List Int) (c : Nat) (w : World) (hl : zs.length ≤ 1048576) (hz : Bytes w ao zs) :
    Calls Try.prog 6 #[.slice ao zs.length c] w fun e w' => Copied zs w e w' := by
  have hnq := fun (w : World) (a : Option Addr) (n c : Nat) => Lib.run_eql_slice_nil (P := Try.prog) w 22 5 a n c 0 0 Try.underlying22
  obtain ⟨i0, hi, hz0, hz1, hz2⟩ := info_parts info5
  rcases ao with _ | a
  · obtain rfl : zs = [] := by rcases hz.1 with h | ⟨b, off, h, _⟩; exact h; cases h
    go_enter Try.func6, Try.ntmps6
    go_wp2
    go_ret
    exact ⟨none, 0, rfl, fun _ => rfl, Nat.le_refl _, Nat.zero_le _, hz, Below.refl _ _⟩
  · rcases hz.1 with rfl | ⟨b, off, h, hlt, hc⟩
    · go_enter Try.func6, Try.ntmps6
      go_wp2_with (at_make; refine wpList_make_full _ rfl (.tmp 8) (.tmp 8) 22 rfl w.heap.size 5 i0 (.int .u8 0) 1 Try.underlying22 hi hz0 hz1 .i64 .i64 _ _ 0 rfl rfl rfl rfl (by omega) (by unfold maxLen; omega) (Nat.le_refl _) ?_; intro w1 hown hgrow)
      have hb1 : Below w.heap.size w w1 := (Below.refl _ _).grown hgrow (Nat.le_refl _) (by simp)
      clear hown hgrow
      go_loop [4] (fun i => i = .int .i64 0) (fun _ => 0)
      case atStart => rfl
      case round =>
        subst hrel
        go_wp2
        go_ret
        exact ⟨_, _, rfl, fun h => (by cases h), Nat.le_refl _, Nat.zero_le _, ⟨.inl rfl, by simp⟩, hb1⟩
    · obtain rfl : a = ⟨b, off, none⟩ := by simpa using h
      go_enter Try.func6, Try.ntmps6
      go_wp2_with (at_make; refine wpList_make_full _ rfl (.tmp 8) (.tmp 8) 22 rfl w.heap.size 5 i0 (.int .u8 0) 1 Try.underlying22 hi hz0 hz1 .i64 .i64 _ _ zs.length rfl rfl rfl rfl (by rw [hz2]; omega) (by unfold maxLen; omega) (Nat.le_refl _) ?_; intro w1 hown hgrow)
      have hb1 : Below w.heap.size w w1 := (Below.refl _ _).grown hgrow (Nat.le_refl _) (by simp)
      have hf1 := Filled.start zs hown
      have hzb := hz.2
      clear hown hgrow h
      go_loopw [4] (fun i wr => ∃ k : Nat, k ≤ zs.length ∧ i = .int .i64 k ∧ Filled wr w.heap.size w.heap.size 5 zs.length zs k ∧ Below w.heap.size w wr) (fun i _ => zs.length - (intOf i).toNat)
      case atStart => exact ⟨0, Nat.zero_le _, rfl, hf1, hb1⟩
      case round =>
        obtain ⟨k, hk, rfl, hfr, hbr⟩ := hrel
        by_cases hlt2 : k < zs.length
        · have hck : wr.cell? ⟨b, off + k, none⟩ = some (.int .u8 zs[k]) := by
            rw [(hbr.cell (p := ⟨b, off + k, none⟩) hlt), hc k hlt2, List.getElem?_eq_getElem hlt2]; rfl
          obtain ⟨v, hcv⟩ := hfr.cell hlt2
          have hfz := hfr.frozen
          have hst := hfr.step hlt2
          rw [List.getElem?_eq_getElem hlt2] at hst
          go_wp2
          go_roundw
          case rel => exact ⟨k + 1, by omega, by go_num, hst, hbr.setCell (Nat.le_refl _) _⟩
          case measure => simp [intOf]; omega
        · obtain rfl : k = zs.length := by omega
          have hby := hfr.bytes rfl hzb
          go_wp2
          go_ret
          exact ⟨_, _, rfl, fun h => (by cases h), Nat.le_refl _, by unfold maxLen; omega, hby, hbr⟩

set_option maxHeartbeats 400000 in
theorem bytes1_yes (ao : Option Addr) (n c : Nat) (h : n ≤ 1048576) (w : World) :
    Calls Try.prog 5 #[.slice ao n c] w fun e w' => e = .returned (.bool true) ∧ w' = w := by
  go_enter Try.func5, Try.ntmps5
  go_wp2
  go_ret
  exact ⟨rfl, rfl⟩

set_option maxHeartbeats 400000 in
theorem bytes1_no (ao : Option Addr) (n c : Nat) (h : ¬ n ≤ 1048576) (w1 : n ≤ maxLen) (w : World) :
    Calls Try.prog 5 #[.slice ao n c] w fun e w' => e = .returned (.bool false) ∧ w' = w := by
  unfold maxLen at w1
  go_enter Try.func5, Try.ntmps5
  go_wp2
  go_ret
  exact ⟨rfl, rfl⟩

set_option maxHeartbeats 400000 in
theorem bytes2_yes (ao : Option Addr) (n c : Nat) (bo : Option Addr) (m d : Nat) (h : n + m ≤ 1048576) (w : World) :
    Calls Try.prog 10 #[.slice ao n c, .slice bo m d] w fun e w' => e = .returned (.bool true) ∧ w' = w := by
  go_enter Try.func10, Try.ntmps10
  go_wp2
  go_ret
  exact ⟨rfl, rfl⟩

set_option maxHeartbeats 400000 in
theorem bytes2_no (ao : Option Addr) (n c : Nat) (bo : Option Addr) (m d : Nat) (h : ¬ n + m ≤ 1048576) (w0 : n ≤ maxLen) (w1 : m ≤ maxLen) (w : World) :
    Calls Try.prog 10 #[.slice ao n c, .slice bo m d] w fun e w' => e = .returned (.bool false) ∧ w' = w := by
  unfold maxLen at w0 w1
  by_cases h1 : n ≤ 1048576
  · by_cases h2 : m ≤ 1048576
    all_goals
      go_enter Try.func10, Try.ntmps10
      go_wp2
      go_ret
      exact ⟨rfl, rfl⟩
  · go_enter Try.func10, Try.ntmps10
    go_wp2
    go_ret
    exact ⟨rfl, rfl⟩

end Go.Proofs.Qxb6601416a
