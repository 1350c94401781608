/-
  Seat b6601495a: contracts of amb1Clone (12), amb1Equal (14) and zzBytes_FnAppendPaddedMatchesModel (10).
-/
import Derived.Test.Qxb6601495aChecked
import Derived.Test.Qxb6601495aPlain
import Derived.Test.Qxb6601495aPad
import Derived.Test.Qxb6601495aCompare
import Derived.WalkKit
import Derived.WalkSpells
import Derived.WalkLawsBesides
import Derived.Deep.QuietTactic
import Derived.BigQuiet
namespace Go.Proofs.Qxb6601495a
open Go.RowKit

/-- what amb1Clone leaves: a slice of the same bytes, made anew or nil -/
def Copied (zs : List Int) (w : World) (e : Ending) (w' : World) : Prop :=
  ∃ ao', e = .returned (.slice ao' zs.length zs.length) ∧ Bytes w' ao' zs ∧ Below w.heap.size w w'

set_option maxHeartbeats 400000 in
theorem copy_any (ao : Option Addr) (zs : List Int) (c : Nat) (w : World) (hl : zs.length ≤ 1048576) (hz : Bytes w ao zs) :
    Calls Try.prog 12 #[.slice ao zs.length c] w fun e w' => Copied zs w e w' := by
  have hnq := fun (w : World) (a : Option Addr) (n c : Nat) => Lib.run_eql_slice_nil (P := Try.prog) w 24 5 a n c 0 0 Try.underlying24
  obtain ⟨i0, hi, hz0, hz1, hz2⟩ := info_parts info5
  rcases ao with _ | a
  · obtain rfl : zs = [] := by rcases hz.1 with h | ⟨b, off, h, _⟩; exact h; cases h
    go_enter Try.func12, Try.ntmps12
    go_wp2
    go_ret
    exact ⟨none, rfl, hz, Below.refl _ _⟩
  · rcases hz.1 with rfl | ⟨b, off, h, hlt, hc⟩
    · go_enter Try.func12, Try.ntmps12
      go_wp2_with (at_make; refine wpList_make_full _ rfl (.tmp 8) (.tmp 8) 24 rfl w.heap.size 5 i0 (.int .u8 0) 1 Try.underlying24 hi hz0 hz1 .i64 .i64 _ _ 0 rfl rfl rfl rfl (by omega) (by unfold maxLen; omega) (Nat.le_refl _) ?_; intro w1 hown hgrow)
      have hb1 : Below w.heap.size w w1 := (Below.refl _ _).grown hgrow (Nat.le_refl _) (by simp)
      clear hown hgrow
      go_loop [4] (fun i => i = .int .i64 0) (fun _ => 0)
      case atStart => rfl
      case round =>
        subst hrel
        go_wp2
        go_ret
        exact ⟨_, rfl, ⟨.inl rfl, by simp⟩, hb1⟩
    · obtain rfl : a = ⟨b, off, none⟩ := by simpa using h
      go_enter Try.func12, Try.ntmps12
      go_wp2_with (at_make; refine wpList_make_full _ rfl (.tmp 8) (.tmp 8) 24 rfl w.heap.size 5 i0 (.int .u8 0) 1 Try.underlying24 hi hz0 hz1 .i64 .i64 _ _ zs.length rfl rfl rfl rfl (by rw [hz2]; omega) (by unfold maxLen; omega) (Nat.le_refl _) ?_; intro w1 hown hgrow)
      have hb1 : Below w.heap.size w w1 := (Below.refl _ _).grown hgrow (Nat.le_refl _) (by simp)
      have hf1 := Filled.start zs hown
      have hzb := hz.2
      clear hown hgrow h
      go_loopw [4] (fun i wr => ∃ k : Nat, k ≤ zs.length ∧ i = .int .i64 k ∧ Filled wr w.heap.size w.heap.size 5 zs.length zs k ∧ Below w.heap.size w wr) (fun i _ => zs.length - (intOf i).toNat)
      case atStart => exact ⟨0, Nat.zero_le _, rfl, hf1, hb1⟩
      case round =>
        obtain ⟨k, hk, rfl, hfr, hbr⟩ := hrel
        by_cases hlt2 : k < zs.length
        · have hck : wr.cell? ⟨b, off + k, none⟩ = some (.int .u8 zs[k]) := by
            rw [(hbr.cell (p := ⟨b, off + k, none⟩) hlt), hc k hlt2, List.getElem?_eq_getElem hlt2]; rfl
          obtain ⟨v, hcv⟩ := hfr.cell hlt2
          have hfz := hfr.frozen
          have hst := hfr.step hlt2
          rw [List.getElem?_eq_getElem hlt2] at hst
          go_wp2
          go_roundw
          case rel => exact ⟨k + 1, by omega, by go_num, hst, hbr.setCell (Nat.le_refl _) _⟩
          case measure => simp [intOf]; omega
        · obtain rfl : k = zs.length := by omega
          have hby := hfr.bytes rfl hzb
          go_wp2
          go_ret
          exact ⟨_, rfl, hby, hbr⟩

set_option maxHeartbeats 400000 in
theorem bytes3_yes (ao : Option Addr) (n c : Nat) (x y : Int) (h : n ≤ 1048576) (w : World) :
    Calls Try.prog 10 #[.slice ao n c, .int .u64 x, .int .i64 y] w fun e w' => e = .returned (.bool true) ∧ w' = w := by
  go_enter Try.func10, Try.ntmps10
  go_wp2
  go_ret
  exact ⟨rfl, rfl⟩

set_option maxHeartbeats 400000 in
theorem bytes3_no (ao : Option Addr) (n c : Nat) (x y : Int) (h : ¬ n ≤ 1048576) (w1 : n ≤ maxLen) (w : World) :
    Calls Try.prog 10 #[.slice ao n c, .int .u64 x, .int .i64 y] w fun e w' => e = .returned (.bool false) ∧ w' = w := by
  unfold maxLen at w1
  go_enter Try.func10, Try.ntmps10
  go_wp2
  go_ret
  exact ⟨rfl, rfl⟩

set_option maxHeartbeats 400000 in
theorem eql_none (a1 a2 : Option Addr) (c1 c2 : Nat) (w : World) :
    Calls Try.prog 14 #[.slice a1 0 c1, .slice a2 0 c2] w fun e w' => e = .returned (.bool true) ∧ Below w.heap.size w w' := by
  go_enter Try.func14, Try.ntmps14
  go_wp2
  go_loop [5] (fun i => i = .int .i64 0) (fun _ => 0)
  case atStart => rfl
  case round =>
    subst hrel
    go_wp2
    go_ret
    exact ⟨rfl, Below.refl _ _⟩

set_option maxHeartbeats 400000 in
theorem eql_same (b1 f1 b2 f2 n c1 c2 : Nat) (x : Nat → Int) (w : World) (hn : n ≤ 2097152) (h1 : b1 < w.heap.size) (h2 : b2 < w.heap.size)
    (hx : ∀ j, j < n → w.cell? ⟨b1, f1 + j, none⟩ = some (.int .u8 (x j))) (hy : ∀ j, j < n → w.cell? ⟨b2, f2 + j, none⟩ = some (.int .u8 (x j))) :
    Calls Try.prog 14 #[.slice (some ⟨b1, f1, none⟩) n c1, .slice (some ⟨b2, f2, none⟩) n c2] w fun e w' => e = .returned (.bool true) ∧ Below w.heap.size w w' := by
  go_enter Try.func14, Try.ntmps14
  go_wp2
  go_loopw [5] (fun i wr => ∃ k : Nat, k ≤ n ∧ i = .int .i64 k ∧ Below w.heap.size w wr) (fun i _ => n - (intOf i).toNat)
  case atStart => exact ⟨0, Nat.zero_le _, rfl, Below.refl _ _⟩
  case round =>
    obtain ⟨k, hk, rfl, hb⟩ := hrel
    by_cases hlt : k < n
    · have e1 : wr.cell? ⟨b1, f1 + k, none⟩ = some (.int .u8 (x k)) := by rw [hb.cell (p := ⟨b1, f1 + k, none⟩) h1, hx k hlt]
      have e2 : wr.cell? ⟨b2, f2 + k, none⟩ = some (.int .u8 (x k)) := by rw [hb.cell (p := ⟨b2, f2 + k, none⟩) h2, hy k hlt]
      generalize x k = z at e1 e2
      clear hx hy
      have i0 : (0 : Int) ≤ (k : Int) := by omega
      have i1 : (k : Int) < (n : Int) := by omega
      go_wp2_with fail
      go_quiet (fail)
      go_wp2
      go_roundw
      case rel => exact ⟨k + 1, by omega, by go_num, below_drewN hb _⟩
      case measure => simp [intOf]; omega
    · go_wp2
      go_ret
      exact ⟨rfl, hb⟩

/-- two rows of the same bytes -/
theorem eql_yes (a1 a2 : Option Addr) (xs : List Int) (n m c1 c2 : Nat) (w : World) (h1 : n = xs.length) (h2 : m = xs.length) (hl : xs.length ≤ 2097152) (hx : Bytes w a1 xs) (hy : Bytes w a2 xs) :
    Calls Try.prog 14 #[.slice a1 n c1, .slice a2 m c2] w fun e w' => e = .returned (.bool true) ∧ Below w.heap.size w w' := by
  subst h1
  subst h2
  rcases hx.1 with rfl | ⟨b1, f1, rfl, l1, hc1⟩
  · exact eql_none a1 a2 c1 c2 w
  · rcases hy.1 with rfl | ⟨b2, f2, rfl, l2, hc2⟩
    · exact eql_none _ a2 c1 c2 w
    · exact eql_same b1 f1 b2 f2 xs.length c1 c2 (fun j => xs[j]?.getD 0) w hl l1 l2 hc1 hc2

end Go.Proofs.Qxb6601495a
