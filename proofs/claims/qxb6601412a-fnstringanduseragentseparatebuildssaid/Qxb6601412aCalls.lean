/-
  Seat b6601412a: contracts of hasPlus (5), Build.String (6), Build.UserAgent (7), zzBytes (4).
-/
import Derived.Test.Qxb6601412aChecked
import Derived.WalkKit
import Derived.WalkSpells
import Derived.WalkLawsBesides
namespace Go.Proofs.Qxb6601412a
open Go.RowKit

theorem hide {p : Prop} (h : p) : Hid p := h

set_option maxHeartbeats 400000 in
theorem bytes_yes (a0 a2 : ByteArray) (a1 a3 : Bool) (h : a0.size + a2.size ≤ 1048576) (w : World) :
    Calls Try.prog 4 #[.string a0, .bool a1, .string a2, .bool a3] w fun e w' => e = .returned (.bool true) ∧ w' = w := by
  go_enter Try.func4, Try.ntmps4
  go_wp2
  go_ret
  exact ⟨rfl, rfl⟩

set_option maxHeartbeats 400000 in
theorem bytes_no (a0 a2 : ByteArray) (a1 a3 : Bool) (h : ¬ a0.size + a2.size ≤ 1048576) (w0 : a0.size ≤ maxLen) (w1 : a2.size ≤ maxLen) (w : World) :
    Calls Try.prog 4 #[.string a0, .bool a1, .string a2, .bool a3] w fun e w' => e = .returned (.bool false) ∧ w' = w := by
  unfold maxLen at w0 w1
  by_cases h1 : a0.size ≤ 1048576
  · by_cases h2 : a2.size ≤ 1048576
    all_goals
      go_enter Try.func4, Try.ntmps4
      go_wp2
      go_ret
      exact ⟨rfl, rfl⟩
  · go_enter Try.func4, Try.ntmps4
    go_wp2
    go_ret
    exact ⟨rfl, rfl⟩

set_option maxHeartbeats 400000 in
theorem plus_no (s : ByteArray) (w : World) (hs : s.size ≤ 1048576) (hp : ∀ k (h : k < s.size), s[k] ≠ 43) :
    Calls Try.prog 5 #[.string s] w fun e w' => e = .returned (.bool false) ∧ w' = w := by
  go_enter Try.func5, Try.ntmps5
  go_wp2
  go_loop [3] (fun i => ∃ k : Nat, k ≤ s.size ∧ i = .int .i64 k) (fun i => s.size - (intOf i).toNat)
  case atStart => exact ⟨0, Nat.zero_le _, rfl⟩
  case round =>
    obtain ⟨k, hk, rfl⟩ := hrel
    by_cases hlt : k < s.size
    · have hne : ((s[k].toNat : Int) == 43) = false := by
        have := hp k hlt
        rw [beq_eq_false_iff_ne]
        intro h
        exact this (UInt8.toNat_inj.1 (by simp; omega))
      go_wp2
      go_round
      case rel => exact ⟨k + 1, by omega, by go_num⟩
      case measure => simp [intOf]; omega
    · go_wp2
      go_ret
      exact ⟨rfl, rfl⟩

set_option maxHeartbeats 400000 in
theorem plus_yes (s : ByteArray) (w : World) (hs : s.size ≤ 1048576) (k0 : Nat) (h0 : k0 < s.size) (hp : s[k0] = 43) :
    Calls Try.prog 5 #[.string s] w fun e w' => e = .returned (.bool true) ∧ w' = w := by
  have HP := hide hp
  clear hp
  go_enter Try.func5, Try.ntmps5
  go_wp2
  go_loop [3] (fun i => ∃ k : Nat, k ≤ k0 ∧ i = .int .i64 k) (fun i => s.size - (intOf i).toNat)
  case atStart => exact ⟨0, Nat.zero_le _, rfl⟩
  case round =>
    obtain ⟨k, hk, rfl⟩ := hrel
    have hlt : k < s.size := by omega
    by_cases hc : ((s[k].toNat : Int) == 43) = true
    · go_wp2
      go_ret
      exact ⟨rfl, rfl⟩
    · have hc' : ((s[k].toNat : Int) == 43) = false := by simpa using hc
      have hne : k ≠ k0 := by
        rintro rfl
        have := HP.out
        rw [this] at hc
        exact hc rfl
      go_wp2
      go_round
      case rel => exact ⟨k + 1, by omega, by go_num⟩
      case measure => simp [intOf]; omega

/-- what Build.String answers -/
def strOf (r : ByteArray) (m : Bool) : ByteArray := if r.toList.isEmpty = true then ⟨#[117, 110, 107, 110, 111, 119, 110]⟩ else if m = true then r ++ ⟨#[43, 109, 111, 100, 105, 102, 105, 101, 100]⟩ else r
/-- what Build.UserAgent answers -/
def uaOf (r : ByteArray) (m : Bool) : ByteArray := if r.toList.isEmpty = true then ⟨#[108, 101, 97, 115, 101]⟩ else ⟨#[108, 101, 97, 115, 101, 47]⟩ ++ strOf r m

theorem ret_string {a b : ByteArray} (h : a = b) : Ending.returned (.string a) = .returned (.string b) := by rw [h]

set_option maxHeartbeats 400000 in
theorem string_any (r : ByteArray) (m : Bool) (w : World) (hs : r.size ≤ 1048576) :
    Calls Try.prog 6 #[.agg #[.string r, .bool m]] w fun e w' => e = .returned (.string (strOf r m)) ∧ w' = w.alloc (.cells #[.string r, .bool m] 25) := by
  cases he : r.toList.isEmpty
  · cases m
    · go_enter Try.func6, Try.ntmps6
      go_wp2
      go_ret
      exact ⟨ret_string (by simp [strOf, he]), rfl⟩
    · go_enter Try.func6, Try.ntmps6
      go_wp2
      go_ret
      exact ⟨ret_string (by simp [strOf, he]), rfl⟩
  · go_enter Try.func6, Try.ntmps6
    go_wp2
    go_ret
    exact ⟨ret_string (by simp [strOf, he]), rfl⟩

theorem strOf_size (r : ByteArray) (m : Bool) : (strOf r m).size ≤ r.size + 9 := by
  unfold strOf
  split
  · show 7 ≤ r.size + 9
    omega
  · split
    · rw [ByteArray.size_append]
      show r.size + 9 ≤ r.size + 9
      omega
    · omega

set_option maxHeartbeats 400000 in
theorem ua_any (r : ByteArray) (m : Bool) (w : World) (hs : r.size ≤ 1048576) :
    Calls Try.prog 7 #[.agg #[.string r, .bool m]] w fun e w' => e = .returned (.string (uaOf r m)) ∧ Below w.heap.size w w' := by
  have hsz := strOf_size r m
  cases he : r.toList.isEmpty
  · go_enter Try.func7, Try.ntmps7
    go_wp2_with fail
    refine (string_any r m _ hs).mono ?_
    rintro e w' ⟨rfl, rfl⟩
    go_wp2
    go_ret
    exact ⟨ret_string (by simp [uaOf, he]), ((Below.refl _ _).alloc (Nat.le_refl _) _).alloc (by simp) _⟩
  · go_enter Try.func7, Try.ntmps7
    go_wp2
    go_ret
    exact ⟨ret_string (by simp [uaOf, he]), (Below.refl _ _).alloc (Nat.le_refl _) _⟩

end Go.Proofs.Qxb6601412a
