/-
  Seat b6601495a: contracts of digitsOnly (16), ZZdigitsOnly (8) and zzBytes_FnDigitsOnlyMatchesByteModel (7).
-/
import Derived.Test.Qxb6601495aChecked
import Derived.WalkKit
import Derived.WalkSpells
import Derived.WalkLawsBesides
import Derived.Laws.RangeAny
namespace Go.Proofs.Qxb6601495a
open Go.RowKit

theorem hideD {p : Prop} (h : p) : Hid p := h

/-- byte k of s is a digit -/
def Dig (s : ByteArray) (k : Nat) (h : k < s.size) : Prop := 48 ≤ (s[k].toNat : Int) ∧ (s[k].toNat : Int) ≤ 57

set_option maxHeartbeats 400000 in
theorem bytes1_yes (s : ByteArray) (h : s.size ≤ 1048576) (w : World) :
    Calls Try.prog 7 #[.string s] w fun e w' => e = .returned (.bool true) ∧ w' = w := by
  go_enter Try.func7, Try.ntmps7
  go_wp2
  go_ret
  exact ⟨rfl, rfl⟩

set_option maxHeartbeats 400000 in
theorem bytes1_no (s : ByteArray) (h : ¬ s.size ≤ 1048576) (w0 : s.size ≤ maxLen) (w : World) :
    Calls Try.prog 7 #[.string s] w fun e w' => e = .returned (.bool false) ∧ w' = w := by
  unfold maxLen at w0
  go_enter Try.func7, Try.ntmps7
  go_wp2
  go_ret
  exact ⟨rfl, rfl⟩

theorem below_iter (w : World) (s : ByteArray) (k : Nat) : Below w.heap.size w (w.iter s k) := (Below.refl _ _).alloc (Nat.le_refl _) _

set_option maxHeartbeats 400000 in
theorem digits_empty (s : ByteArray) (w : World) (h : s.toList.isEmpty = true) :
    Calls Try.prog 16 #[.string s] w fun e w' => e = .returned (.bool false) ∧ Below w.heap.size w w' := by
  go_enter Try.func16, Try.ntmps16
  go_wp2
  go_ret
  exact ⟨rfl, Below.refl _ _⟩

set_option maxHeartbeats 400000 in
theorem digits_yes (s : ByteArray) (w : World) (h : s.toList.isEmpty = false) (hd : ∀ k (h : k < s.size), Dig s k h) :
    Calls Try.prog 16 #[.string s] w fun e w' => e = .returned (.bool true) ∧ Below w.heap.size w w' := by
  go_enter Try.func16, Try.ntmps16
  go_wp2
  go_loopw [4] (fun _ wr => ∃ k : Nat, k ≤ s.size ∧ w.iter s k = wr) (fun _ wr => s.size - wr.iterPos w.heap.size)
  case atStart => exact ⟨0, Nat.zero_le _, rfl⟩
  case round =>
    obtain ⟨k, hk, rfl⟩ := hrel
    by_cases hlt : k < s.size
    · obtain ⟨d1, d2⟩ := hd k hlt
      have hnx := fun ty => run_next_ascii (P := Try.prog) w s k ty hlt (by omega)
      go_wp2
      go_roundw
      case rel => exact ⟨k + 1, by omega, rfl⟩
      case measure => simp; omega
    · have hnx := fun ty => run_next_end (P := Try.prog) w s k ty hlt
      go_wp2
      go_ret
      exact ⟨rfl, below_iter _ _ _⟩

set_option maxHeartbeats 400000 in
theorem digits_no (s : ByteArray) (w : World) (h : s.toList.isEmpty = false) (k0 : Nat) (h0 : k0 < s.size) (hd : ∀ k (h : k < s.size), k < k0 → Dig s k h) (hn : ¬ Dig s k0 h0) :
    Calls Try.prog 16 #[.string s] w fun e w' => e = .returned (.bool false) ∧ Below w.heap.size w w' := by
  have HN := hideD hn
  clear hn
  go_enter Try.func16, Try.ntmps16
  go_wp2
  go_loopw [4] (fun _ wr => ∃ k : Nat, k ≤ k0 ∧ w.iter s k = wr) (fun _ wr => s.size - wr.iterPos w.heap.size)
  case atStart => exact ⟨0, Nat.zero_le _, rfl⟩
  case round =>
    obtain ⟨k, hk, rfl⟩ := hrel
    have hlt : k < s.size := by omega
    by_cases hk0 : k < k0
    · obtain ⟨d1, d2⟩ := hd k hlt hk0
      have hnx := fun ty => run_next_ascii (P := Try.prog) w s k ty hlt (by omega)
      go_wp2
      go_roundw
      case rel => exact ⟨k + 1, by omega, rfl⟩
      case measure => simp; omega
    · obtain rfl : k = k0 := by omega
      by_cases ha : (s[k]'hlt).toNat < 128
      · have hnx := fun ty => run_next_ascii (P := Try.prog) w s k ty hlt ha
        by_cases hlo : ((s[k]'hlt).toNat : Int) < 48
        · go_wp2
          go_ret
          exact ⟨rfl, below_iter _ _ _⟩
        · have hhi : 57 < ((s[k]'hlt).toNat : Int) := by
            have := HN.out
            unfold Dig at this
            omega
          go_wp2
          go_ret
          exact ⟨rfl, below_iter _ _ _⟩
      · have hdh := (decode_high s k hlt (by omega)).1
        have hnx := fun ty => run_next_any (P := Try.prog) w s k ty hlt
        generalize Utf8.decode s k = dc at *
        have hr : 57 < (dc.1 : Int) := by omega
        go_wp2
        go_ret
        exact ⟨rfl, below_iter _ _ _⟩

end Go.Proofs.Qxb6601495a
