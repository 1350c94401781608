/-
  Seat b6601416a: the contract of ctlogB1SameAt (9), where it answers true.
-/
import Derived.Test.Qxb6601416aChecked
import Derived.Test.Qxb6601416aPlain
import Derived.Test.Qxb6601416aRead
import Derived.WalkKit
import Derived.WalkSpells
import Derived.WalkLawsBesides
import Derived.Deep.QuietTactic
import Derived.BigQuiet
namespace Go.Proofs.Qxb6601416a
open Go.RowKit

set_option maxHeartbeats 400000 in
theorem same_none (a1 a2 : Option Addr) (zs : List Int) (c1 c2 o : Nat) (w : World) (hl : zs.length ≤ 2097152) (hon : o ≤ zs.length) :
    Calls Try.prog 9 #[.slice a1 0 c1, .slice a2 zs.length c2, .int .i64 o, .int .i64 0] w fun e w' => e = .returned (.bool true) ∧ Below w.heap.size w w' := by
  go_enter Try.func9, Try.ntmps9
  go_wp2
  go_loop [9] (fun i => i = .int .i64 0) (fun _ => 0)
  case atStart => rfl
  case round =>
    subst hrel
    go_wp2
    go_ret
    exact ⟨rfl, Below.refl _ _⟩

set_option maxHeartbeats 400000 in
theorem same_some (b1 f1 b2 f2 : Nat) (xs zs : List Int) (c1 c2 o : Nat) (w : World) (hl : zs.length ≤ 2097152) (hon : o + xs.length ≤ zs.length) (h1 : b1 < w.heap.size) (h2 : b2 < w.heap.size)
    (hx : ∀ j, j < xs.length → w.cell? ⟨b1, f1 + j, none⟩ = some (.int .u8 (xs[j]?.getD 0))) (hz : ∀ j, j < xs.length → w.cell? ⟨b2, f2 + (o + j), none⟩ = some (.int .u8 (xs[j]?.getD 0))) :
    Calls Try.prog 9 #[.slice (some ⟨b1, f1, none⟩) xs.length c1, .slice (some ⟨b2, f2, none⟩) zs.length c2, .int .i64 o, .int .i64 xs.length] w fun e w' => e = .returned (.bool true) ∧ Below w.heap.size w w' := by
  go_enter Try.func9, Try.ntmps9
  go_wp2
  go_loopw [9] (fun i wr => ∃ k : Nat, k ≤ xs.length ∧ i = .int .i64 k ∧ Below w.heap.size w wr) (fun i _ => xs.length - (intOf i).toNat)
  case atStart => exact ⟨0, Nat.zero_le _, rfl, Below.refl _ _⟩
  case round =>
    obtain ⟨k, hk, rfl, hb⟩ := hrel
    by_cases hlt : k < xs.length
    · have e1 : wr.cell? ⟨b1, f1 + k, none⟩ = some (.int .u8 xs[k]) := by
        rw [hb.cell (p := ⟨b1, f1 + k, none⟩) h1, hx k hlt, List.getElem?_eq_getElem hlt]; rfl
      have e2 : wr.cell? ⟨b2, f2 + (o + k), none⟩ = some (.int .u8 xs[k]) := by
        rw [hb.cell (p := ⟨b2, f2 + (o + k), none⟩) h2, hz k hlt, List.getElem?_eq_getElem hlt]; rfl
      clear hx hz
      have i0 : (0 : Int) ≤ (k : Int) := by omega
      have i1 : (k : Int) < (xs.length : Int) := by omega
      have i2 : (0 : Int) ≤ (o : Int) + (k : Int) := by omega
      have i3 : (o : Int) + (k : Int) < (zs.length : Int) := by omega
      go_wp2_with fail
      go_quiet (fail)
      go_wp2
      go_roundw
      case rel => exact ⟨k + 1, by omega, by go_num, below_drewN hb _⟩
      case measure => simp [intOf]; omega
    · go_wp2
      go_ret
      exact ⟨rfl, hb⟩

/-- where got holds the bytes of src from o on, the answer is true -/
theorem same_yes (a1 a2 : Option Addr) (xs zs : List Int) (n m c1 c2 : Nat) (o on : Int) (w : World) (hn : n = xs.length) (hm : m = zs.length) (ho : 0 ≤ o) (hno : on = n) (hl : zs.length ≤ 2097152) (hx : Bytes w a1 xs) (hz : Bytes w a2 zs)
    (heq : (zs.drop o.toNat).take xs.length = xs) (hon : o.toNat + xs.length ≤ zs.length) :
    Calls Try.prog 9 #[.slice a1 n c1, .slice a2 m c2, .int .i64 o, .int .i64 on] w fun e w' => e = .returned (.bool true) ∧ Below w.heap.size w w' := by
  obtain ⟨O, rfl⟩ := Int.eq_ofNat_of_zero_le ho
  rw [Int.toNat_natCast] at heq hon
  subst hno
  subst hn
  subst hm
  rcases hx.1 with rfl | ⟨b1, f1, rfl, h1, hc1⟩
  · exact same_none a1 a2 zs c1 c2 O w hl (by simpa using hon)
  · by_cases h0 : xs.length = 0
    · obtain rfl : xs = [] := List.length_eq_zero_iff.1 h0
      exact same_none _ a2 zs c1 c2 O w hl (by simpa using hon)
    · rcases hz.1 with rfl | ⟨b2, f2, rfl, h2, hc2⟩
      · simp only [List.length_nil] at hon; omega
      · refine same_some b1 f1 b2 f2 xs zs c1 c2 O w hl hon h1 h2 hc1 fun j hj => ?_
        rw [hc2 (O + j) (by omega)]
        have : xs[j]? = zs[O + j]? := by
          conv => lhs; rw [← heq]
          rw [List.getElem?_take_of_lt hj, List.getElem?_drop]
        rw [this]

end Go.Proofs.Qxb6601416a
