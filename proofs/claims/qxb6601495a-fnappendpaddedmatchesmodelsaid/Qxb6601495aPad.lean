/-
  Seat b6601495a: contracts of appendPadded (17), ZZappendPadded (13) and amb1Pow10 (11).
-/
import Derived.Test.Qxb6601495aChecked
import Derived.Test.Qxb6601495aPlain
import Derived.Test.Qxb6601495aNums
import Derived.Test.Qxb6601495aZeros
import Derived.WalkKit
import Derived.WalkSpells
import Derived.WalkLawsBesides
namespace Go.Proofs.Qxb6601495a
open Go.RowKit
set_option linter.unusedVariables false

theorem info5 : (Try.prog.info? 5).map (fun i => (i.zero, i.size, i.bytes)) = some (some (.int .u8 0), 1, 1) := by kernel_rfl

/-- what appendPadded leaves -/
def PadOk (zs : List Int) (N W : Nat) (w : World) (e : Ending) (w' : World) : Prop :=
  ∃ ao' n' c', e = .returned (.slice ao' n' c') ∧ n' = zs.length + W ∧ Bytes w' ao' (zs ++ digs N W) ∧ Below w.heap.size w w'

theorem set_row (zs : List Int) (N W k : Nat) (hk : k < W) : ((zs ++ pad N W k).map (Value.int .u8)).set (zs.length + (W - 1 - k)) (Value.int .u8 (48 + ((N / 10 ^ k % 10 : Nat) : Int))) = (zs ++ pad N W (k + 1)).map (Value.int .u8) := by
  rw [← List.map_set]
  congr 1
  rw [List.set_append, if_neg (by omega), Nat.add_sub_cancel_left, pad_step N W k hk]

theorem row_bytes (zs : List Int) (N W : Nat) (hb : ∀ j : Nat, 0 ≤ zs[j]?.getD 0 ∧ zs[j]?.getD 0 ≤ 255) : ∀ j : Nat, 0 ≤ (zs ++ digs N W)[j]?.getD 0 ∧ (zs ++ digs N W)[j]?.getD 0 ≤ 255 := by
  refine getD_bytes fun z hz => ?_
  rcases List.mem_append.1 hz with h | h
  · exact bytes_mem hb z h
  · exact digs_bytes N W z h

set_option maxHeartbeats 1000000 in
theorem padded_zero (ao : Option Addr) (zs : List Int) (w : World) (hl : zs.length ≤ 1048576) (hz : Bytes w ao zs) :
    Calls Try.prog 17 #[.slice ao zs.length zs.length, .int .u64 0, .int .i64 0] w fun e w' => PadOk zs 0 0 w e w' := by
  obtain ⟨i0, hi, hz0, hz1, hz2⟩ := info_parts info5
  have h0 : ao = none → zs.length = 0 := by
    rintro rfl
    rcases hz.1 with h | ⟨b, off, h, _⟩
    · rw [h]; rfl
    · cases h
  have hrun := fun ty => run_append_zero (P := Try.prog) w 24 9 ty 5 i0 Try.underlying24 Try.underlying9 hi ao zs.length h0
  clear h0
  go_enter Try.func17, Try.ntmps17
  go_wp2_with (at_builtin; refine wpList_append_run rfl (.tmp 8) (.tmp 10) 24 9 rfl _ _ _ rfl rfl hrun ?_)
  go_loop [1, 7] (fun n i => n = .int .u64 0) (fun _ _ => 0)
  case atStart => rfl
  case round =>
    subst hrel
    go_wp2
    go_ret
    exact ⟨_, _, _, rfl, rfl, by simpa [digs] using hz, Below.refl _ _⟩

set_option maxHeartbeats 1000000 in
theorem padded_some (ao : Option Addr) (zs : List Int) (N W : Nat) (w : World) (hl : zs.length ≤ 1048576) (hW : W ≤ 4) (hW1 : 1 ≤ W) (hN : N < 10 ^ W) (hN4 : N < 10000) (hz : Bytes w ao zs) :
    Calls Try.prog 17 #[.slice ao zs.length zs.length, .int .u64 N, .int .i64 W] w fun e w' => PadOk zs N W w e w' := by
  obtain ⟨i0, hi, hz0, hz1, hz2⟩ := info_parts info5
  obtain ⟨cap, w1, hrun, hown, hb1⟩ := run_append_zeros (P := Try.prog) w 24 9 5 i0 Try.underlying24 Try.underlying9 hi hz0 hz1 hz2 ao zs W hl hW hW1 hz
  rw [← pad_zero N W] at hown
  have hzb := hz.2
  have HN := hide hN
  clear hz hN
  go_enter Try.func17, Try.ntmps17
  go_wp2_with (at_builtin; refine wpList_append_run rfl (.tmp 8) (.tmp 10) 24 9 rfl _ _ _ rfl rfl hrun ?_)
  clear hrun
  go_loopw [1, 7] (fun n i wr => ∃ (k c : Nat) (q : Int), k ≤ W ∧ Hid (c = N / 10 ^ k) ∧ c ≤ 9999 ∧ q + 1 + k = zs.length + W ∧ n = .int .u64 c ∧ i = .int .i64 q ∧ wr.ownsRow w.heap.size 5 1 (.slice (some ⟨w.heap.size, 0, none⟩) (zs.length + W) cap) (zs.length + W) ((zs ++ pad N W k).map (Value.int .u8)) ∧ Below w.heap.size w wr) (fun n _ _ => (intOf n).toNat)
  case atStart => exact ⟨0, N, (zs.length : Int) + W - 1, Nat.zero_le _, hide (by simp), by omega, by omega, rfl, by go_num, hown, hb1⟩
  case round =>
    obtain ⟨k, c, q, hk, HC, hc4, hq, rfl, rfl, hown, hbr⟩ := hrel
    by_cases hc0 : 0 < c
    · have hkW : k < W := room N W k HN.out (by rw [← HC.out]; exact hc0)
      obtain ⟨p, rfl⟩ : ∃ p : Nat, q = p := ⟨q.toNat, by omega⟩
      have hp : p = zs.length + (W - 1 - k) := by omega
      have HP := hide hp
      have i1 : (p : Int) < (zs.length : Int) + (W : Int) := by omega
      obtain ⟨vx, hcell⟩ : ∃ vx, wr.cell? ⟨w.heap.size, p, none⟩ = some vx := by
        have hl' := hown.1
        exact ⟨_, by rw [hown.cellAt p (by omega), List.getElem?_eq_getElem (by omega)]⟩
      have hfz := hown.frozenAt p
      have hst := (hown.stored p (.int .u8 (48 + (c : Int) % 10))).1
      have e := set_row zs N W k hkW
      rw [← HC.out, ← hp, show ((c % 10 : Nat) : Int) = (c : Int) % 10 by omega] at e
      rw [e] at hst
      have HD : Hid (c / 10 = N / 10 ^ (k + 1)) := hide (by rw [div_step, ← HC.out])
      have HQ := hide hq
      clear hp e hq
      go_wp2
      go_roundw
      case rel => exact ⟨k + 1, c / 10, (p : Int) - 1, by omega, HD, by omega, by have := HQ.out; omega, by go_num, rfl, hst, hbr.setCell (Nat.le_refl _) _⟩
      case measure => simp [intOf]; omega
    · obtain rfl : c = 0 := by omega
      rw [pad_end N W k HC.out.symm] at hown
      obtain ⟨_, ao2, c2, e, _, _, hB⟩ := owned_bytes hown (row_bytes zs N W hzb)
      simp only [Value.slice.injEq, true_and] at e
      obtain ⟨rfl, rfl⟩ := e
      clear hq
      go_wp2
      go_ret
      exact ⟨_, _, _, rfl, rfl, hB, hbr⟩

theorem padded_any (ao : Option Addr) (zs : List Int) (n c : Nat) (N W : Nat) (w : World) (hn : n = zs.length) (hc : c = zs.length) (hl : zs.length ≤ 1048576) (hW : W ≤ 4) (hN : N < 10 ^ W) (hz : Bytes w ao zs) :
    Calls Try.prog 17 #[.slice ao n c, .int .u64 N, .int .i64 W] w fun e w' => PadOk zs N W w e w' := by
  subst hn
  subst hc
  by_cases h : W = 0
  · subst h
    obtain rfl : N = 0 := by simpa using hN
    exact padded_zero ao zs w hl hz
  · have : (10 : Nat) ^ W ≤ 10 ^ 4 := Nat.pow_le_pow_right (by omega) hW
    exact padded_some ao zs N W w hl hW (by omega) hN (by omega) hz

set_option maxHeartbeats 400000 in
theorem zzpadded_any (ao : Option Addr) (zs : List Int) (n c : Nat) (N W : Nat) (w : World) (hn : n = zs.length) (hc : c = zs.length) (hl : zs.length ≤ 1048576) (hW : W ≤ 4) (hN : N < 10 ^ W) (hz : Bytes w ao zs) :
    Calls Try.prog 13 #[.slice ao n c, .int .u64 N, .int .i64 W] w fun e w' => PadOk zs N W w e w' := by
  have HN := hide hN
  have HA := hide hn
  have HB := hide hc
  clear hN hn hc
  go_enter Try.func13, Try.ntmps13
  go_wp2_with fail
  refine (padded_any ao zs n c N W _ HA.out HB.out hl hW HN.out hz).mono ?_
  rintro e w' ⟨ao', n', c', rfl, hn', hz', hb'⟩
  have HC := hide hn'
  clear hn'
  go_wp2
  go_ret
  exact ⟨_, _, _, rfl, HC.out, hz', hb'⟩

/-- ten to the power W, kept from the walk -/
def p10 (W : Nat) : Nat := 10 ^ W

set_option maxHeartbeats 400000 in
theorem pow_any (x : Int) (W : Nat) (w : World) (hx : x = W) (hW : W ≤ 4) :
    Calls Try.prog 11 #[.int .i64 x] w fun e w' => e = .returned (.int .u64 (p10 W)) ∧ w' = w := by
  subst hx
  match W, hW with
  | 0, _ | 1, _ | 2, _ | 3, _ | 4, _ =>
    go_enter Try.func11, Try.ntmps11
    go_wp2
    go_ret
    exact ⟨rfl, rfl⟩

end Go.Proofs.Qxb6601495a
