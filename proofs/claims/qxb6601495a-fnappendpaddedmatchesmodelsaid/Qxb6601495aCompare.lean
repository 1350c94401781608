/-
  Seat b6601495a: contracts of amb1Compare (15) on two rows of one length.
-/
import Derived.Test.Qxb6601495aChecked
import Derived.Test.Qxb6601495aPlain
import Derived.WalkKit
import Derived.WalkSpells
import Derived.WalkLawsBesides
import Derived.Deep.QuietTactic
import Derived.BigQuiet
namespace Go.Proofs.Qxb6601495a
open Go.RowKit

theorem below_drewN {w w' : World} (h : Below w.heap.size w w') (n : Nat) : Below w.heap.size w (w'.drewN n) := ⟨h.os, h.tape, h.output, h.size, h.block⟩

set_option maxHeartbeats 400000 in
theorem cmp_none (a1 a2 : Option Addr) (c1 c2 : Nat) (w : World) :
    Calls Try.prog 15 #[.slice a1 0 c1, .slice a2 0 c2] w fun e w' => e = .returned (.int .i64 0) ∧ Below w.heap.size w w' := by
  go_enter Try.func15, Try.ntmps15
  go_wp2
  go_loop [5] (fun i => i = .int .i64 0) (fun _ => 0)
  case atStart => rfl
  case round =>
    subst hrel
    go_wp2
    go_ret
    exact ⟨rfl, Below.refl _ _⟩

set_option maxHeartbeats 400000 in
theorem cmp_same (b1 f1 b2 f2 n c1 c2 : Nat) (x : Nat → Int) (w : World) (hn : n ≤ 1048576) (h1 : b1 < w.heap.size) (h2 : b2 < w.heap.size)
    (hx : ∀ j, j < n → w.cell? ⟨b1, f1 + j, none⟩ = some (.int .u8 (x j))) (hy : ∀ j, j < n → w.cell? ⟨b2, f2 + j, none⟩ = some (.int .u8 (x j))) :
    Calls Try.prog 15 #[.slice (some ⟨b1, f1, none⟩) n c1, .slice (some ⟨b2, f2, none⟩) n c2] w fun e w' => e = .returned (.int .i64 0) ∧ Below w.heap.size w w' := by
  go_enter Try.func15, Try.ntmps15
  go_wp2
  go_loopw [5] (fun i wr => ∃ k : Nat, k ≤ n ∧ i = .int .i64 k ∧ Below w.heap.size w wr) (fun i _ => n - (intOf i).toNat)
  case atStart => exact ⟨0, Nat.zero_le _, rfl, Below.refl _ _⟩
  case round =>
    obtain ⟨k, hk, rfl, hb⟩ := hrel
    by_cases hlt : k < n
    · have e1 : wr.cell? ⟨b1, f1 + k, none⟩ = some (.int .u8 (x k)) := by rw [hb.cell (p := ⟨b1, f1 + k, none⟩) h1, hx k hlt]
      have e2 : wr.cell? ⟨b2, f2 + k, none⟩ = some (.int .u8 (x k)) := by rw [hb.cell (p := ⟨b2, f2 + k, none⟩) h2, hy k hlt]
      generalize x k = z at e1 e2
      clear hx hy
      have i0 : (0 : Int) ≤ (k : Int) := by omega
      have i1 : (k : Int) < (n : Int) := by omega
      go_wp2_with fail
      go_quiet (fail)
      go_wp2_with fail
      go_quiet (fail)
      go_wp2
      go_roundw
      case rel => exact ⟨k + 1, by omega, by go_num, below_drewN hb _⟩
      case measure => simp [intOf]; omega
    · go_wp2
      go_ret
      exact ⟨rfl, hb⟩

set_option maxHeartbeats 400000 in
theorem cmp_less (b1 f1 b2 f2 n c1 c2 k0 : Nat) (x y : Nat → Int) (w : World) (hn : n ≤ 1048576) (h0 : k0 < n) (h1 : b1 < w.heap.size) (h2 : b2 < w.heap.size)
    (hx : ∀ j, j < n → w.cell? ⟨b1, f1 + j, none⟩ = some (.int .u8 (x j))) (hy : ∀ j, j < n → w.cell? ⟨b2, f2 + j, none⟩ = some (.int .u8 (y j)))
    (he : ∀ j, j < k0 → x j = y j) (hl : x k0 < y k0) :
    Calls Try.prog 15 #[.slice (some ⟨b1, f1, none⟩) n c1, .slice (some ⟨b2, f2, none⟩) n c2] w fun e w' => e = .returned (.int .i64 (-1)) ∧ Below w.heap.size w w' := by
  go_enter Try.func15, Try.ntmps15
  go_wp2
  go_loopw [5] (fun i wr => ∃ k : Nat, k ≤ k0 ∧ i = .int .i64 k ∧ Below w.heap.size w wr) (fun i _ => n - (intOf i).toNat)
  case atStart => exact ⟨0, Nat.zero_le _, rfl, Below.refl _ _⟩
  case round =>
    obtain ⟨k, hk, rfl, hb⟩ := hrel
    have hlt : k < n := by omega
    have e1 : wr.cell? ⟨b1, f1 + k, none⟩ = some (.int .u8 (x k)) := by rw [hb.cell (p := ⟨b1, f1 + k, none⟩) h1, hx k hlt]
    have e2 : wr.cell? ⟨b2, f2 + k, none⟩ = some (.int .u8 (y k)) := by rw [hb.cell (p := ⟨b2, f2 + k, none⟩) h2, hy k hlt]
    have i0 : (0 : Int) ≤ (k : Int) := by omega
    have i1 : (k : Int) < (n : Int) := by omega
    by_cases hkk : k < k0
    · rw [← he k hkk] at e2
      generalize x k = z at e1 e2
      clear hx hy he hl
      go_wp2_with fail
      go_quiet (fail)
      go_wp2_with fail
      go_quiet (fail)
      go_wp2
      go_roundw
      case rel => exact ⟨k + 1, by omega, by go_num, below_drewN hb _⟩
      case measure => simp [intOf]; omega
    · obtain rfl : k = k0 := by omega
      generalize x k = z at *
      generalize y k = z2 at *
      clear hx hy he
      go_wp2_with fail
      go_quiet (fail)
      go_wp2
      go_ret
      exact ⟨rfl, below_drewN hb _⟩

set_option maxHeartbeats 400000 in
theorem cmp_more (b1 f1 b2 f2 n c1 c2 k0 : Nat) (x y : Nat → Int) (w : World) (hn : n ≤ 1048576) (h0 : k0 < n) (h1 : b1 < w.heap.size) (h2 : b2 < w.heap.size)
    (hx : ∀ j, j < n → w.cell? ⟨b1, f1 + j, none⟩ = some (.int .u8 (x j))) (hy : ∀ j, j < n → w.cell? ⟨b2, f2 + j, none⟩ = some (.int .u8 (y j)))
    (he : ∀ j, j < k0 → x j = y j) (hl : y k0 < x k0) :
    Calls Try.prog 15 #[.slice (some ⟨b1, f1, none⟩) n c1, .slice (some ⟨b2, f2, none⟩) n c2] w fun e w' => e = .returned (.int .i64 1) ∧ Below w.heap.size w w' := by
  go_enter Try.func15, Try.ntmps15
  go_wp2
  go_loopw [5] (fun i wr => ∃ k : Nat, k ≤ k0 ∧ i = .int .i64 k ∧ Below w.heap.size w wr) (fun i _ => n - (intOf i).toNat)
  case atStart => exact ⟨0, Nat.zero_le _, rfl, Below.refl _ _⟩
  case round =>
    obtain ⟨k, hk, rfl, hb⟩ := hrel
    have hlt : k < n := by omega
    have e1 : wr.cell? ⟨b1, f1 + k, none⟩ = some (.int .u8 (x k)) := by rw [hb.cell (p := ⟨b1, f1 + k, none⟩) h1, hx k hlt]
    have e2 : wr.cell? ⟨b2, f2 + k, none⟩ = some (.int .u8 (y k)) := by rw [hb.cell (p := ⟨b2, f2 + k, none⟩) h2, hy k hlt]
    have i0 : (0 : Int) ≤ (k : Int) := by omega
    have i1 : (k : Int) < (n : Int) := by omega
    by_cases hkk : k < k0
    · rw [← he k hkk] at e2
      generalize x k = z at e1 e2
      clear hx hy he hl
      go_wp2_with fail
      go_quiet (fail)
      go_wp2_with fail
      go_quiet (fail)
      go_wp2
      go_roundw
      case rel => exact ⟨k + 1, by omega, by go_num, below_drewN hb _⟩
      case measure => simp [intOf]; omega
    · obtain rfl : k = k0 := by omega
      generalize x k = z at *
      generalize y k = z2 at *
      clear hx hy he
      go_wp2_with fail
      go_quiet (fail)
      go_wp2_with fail
      go_quiet (fail)
      go_wp2
      go_ret
      exact ⟨rfl, below_drewN (below_drewN hb _) _⟩

/-- two rows of the same bytes -/
theorem cmp_eq (a1 a2 : Option Addr) (xs : List Int) (n m c1 c2 : Nat) (w : World) (h1 : n = xs.length) (h2 : m = xs.length) (hl : xs.length ≤ 1048576) (hx : Bytes w a1 xs) (hy : Bytes w a2 xs) :
    Calls Try.prog 15 #[.slice a1 n c1, .slice a2 m c2] w fun e w' => e = .returned (.int .i64 0) ∧ Below w.heap.size w w' := by
  subst h1
  subst h2
  rcases hx.1 with rfl | ⟨b1, f1, rfl, l1, hc1⟩
  · exact cmp_none a1 a2 c1 c2 w
  · rcases hy.1 with rfl | ⟨b2, f2, rfl, l2, hc2⟩
    · exact cmp_none _ a2 c1 c2 w
    · exact cmp_same b1 f1 b2 f2 xs.length c1 c2 (fun j => xs[j]?.getD 0) w hl l1 l2 hc1 hc2

theorem cmp_lt (a1 a2 : Option Addr) (xs ys : List Int) (n m c1 c2 k0 : Nat) (w : World) (h1 : n = xs.length) (h2 : m = ys.length) (hxy : ys.length = xs.length) (hl : xs.length ≤ 1048576) (hx : Bytes w a1 xs) (hy : Bytes w a2 ys) (h0 : k0 < xs.length)
    (he : ∀ j, j < k0 → xs[j]?.getD 0 = ys[j]?.getD 0) (hlt : xs[k0]?.getD 0 < ys[k0]?.getD 0) :
    Calls Try.prog 15 #[.slice a1 n c1, .slice a2 m c2] w fun e w' => e = .returned (.int .i64 (-1)) ∧ Below w.heap.size w w' := by
  subst h1
  rw [hxy] at h2
  subst h2
  rcases hx.1 with rfl | ⟨b1, f1, rfl, l1, hc1⟩
  · exact absurd h0 (Nat.not_lt_zero _)
  · rcases hy.1 with rfl | ⟨b2, f2, rfl, l2, hc2⟩
    · rw [← hxy] at h0; exact absurd h0 (Nat.not_lt_zero _)
    · rw [hxy] at hc2
      exact cmp_less b1 f1 b2 f2 xs.length c1 c2 k0 (fun j => xs[j]?.getD 0) (fun j => ys[j]?.getD 0) w hl h0 l1 l2 hc1 hc2 he hlt

theorem cmp_gt (a1 a2 : Option Addr) (xs ys : List Int) (n m c1 c2 k0 : Nat) (w : World) (h1 : n = xs.length) (h2 : m = ys.length) (hxy : ys.length = xs.length) (hl : xs.length ≤ 1048576) (hx : Bytes w a1 xs) (hy : Bytes w a2 ys) (h0 : k0 < xs.length)
    (he : ∀ j, j < k0 → xs[j]?.getD 0 = ys[j]?.getD 0) (hlt : ys[k0]?.getD 0 < xs[k0]?.getD 0) :
    Calls Try.prog 15 #[.slice a1 n c1, .slice a2 m c2] w fun e w' => e = .returned (.int .i64 1) ∧ Below w.heap.size w w' := by
  subst h1
  rw [hxy] at h2
  subst h2
  rcases hx.1 with rfl | ⟨b1, f1, rfl, l1, hc1⟩
  · exact absurd h0 (Nat.not_lt_zero _)
  · rcases hy.1 with rfl | ⟨b2, f2, rfl, l2, hc2⟩
    · rw [← hxy] at h0; exact absurd h0 (Nat.not_lt_zero _)
    · rw [hxy] at hc2
      exact cmp_more b1 f1 b2 f2 xs.length c1 c2 k0 (fun j => xs[j]?.getD 0) (fun j => ys[j]?.getD 0) w hl h0 l1 l2 hc1 hc2 he hlt

end Go.Proofs.Qxb6601495a
