/-
  Seat b6601416a: contracts of readVector24 (11) and ZZreadVector24 (7).
-/
import Derived.Test.Qxb6601416aChecked
import Derived.Test.Qxb6601416aPlain
import Derived.WalkKit
import Derived.WalkSpells
import Derived.WalkLawsBesides
import Derived.Deep.QuietTactic
import Derived.BigQuiet
namespace Go.Proofs.Qxb6601416a
open Go.RowKit
set_option linter.unusedVariables false

/-- the length that the first three bytes say -/
def lenOf (zs : List Int) : Nat := (zs[0]?.getD 0 * 65536 + zs[1]?.getD 0 * 256 + zs[2]?.getD 0).toNat

/-- what readVector24 leaves where it accepts -/
def ReadOk (zs : List Int) (M : Nat) (w : World) (e : Ending) (w' : World) : Prop :=
  ∃ a1 n1 c1 a2 n2 c2, e = .returned (.tuple #[.slice a1 n1 c1, .slice a2 n2 c2, .bool true]) ∧ (a1 = none → c1 = 0) ∧ n1 = M ∧ n2 = zs.length - (3 + M) ∧ Bytes w' a1 ((zs.drop 3).take M) ∧ Bytes w' a2 (zs.drop (3 + M)) ∧ Below w.heap.size w w'

theorem below_drewN {w w' : World} (h : Below w.heap.size w w') (n : Nat) : Below w.heap.size w (w'.drewN n) := ⟨h.os, h.tape, h.output, h.size, h.block⟩

theorem Bytes.cut {w : World} {b off : Nat} {zs : List Int} (h : Bytes w (some ⟨b, off, none⟩) zs) (k m : Nat) : Bytes w (some ⟨b, off + k, none⟩) ((zs.drop k).take m) := by
  have hm : ∀ z ∈ (zs.drop k).take m, 0 ≤ z ∧ z ≤ 255 := fun z hz => bytes_mem h.2 z (List.mem_of_mem_drop (List.mem_of_mem_take hz))
  refine ⟨?_, getD_bytes hm⟩
  rcases h.1 with h' | ⟨b', off', h', hlt, hc⟩
  · left; simp [h']
  · simp at h'
    obtain ⟨rfl, rfl⟩ := h'
    right
    refine ⟨b, off + k, rfl, hlt, fun j hj => ?_⟩
    have hj1 : j < m := by rw [List.length_take] at hj; omega
    have hj2 : k + j < zs.length := by rw [List.length_take, List.length_drop] at hj; omega
    rw [Nat.add_assoc, hc (k + j) hj2, List.getElem?_take_of_lt hj1, List.getElem?_drop]

theorem Bytes.rest {w : World} {b off : Nat} {zs : List Int} (h : Bytes w (some ⟨b, off, none⟩) zs) (k : Nat) : Bytes w (some ⟨b, off + k, none⟩) (zs.drop k) := by
  have := h.cut k zs.length
  rwa [List.take_of_length_le (by rw [List.length_drop]; omega)] at this

theorem Bytes.empty (w : World) (ao : Option Addr) {zs : List Int} (h : zs = []) : Bytes w ao zs := by subst h; exact ⟨.inl rfl, by simp⟩

/-- the three cells, and what they say -/
theorem heads {w : World} {b off : Nat} {zs : List Int} (hz : Bytes w (some ⟨b, off, none⟩) zs) (h3 : 3 ≤ zs.length) :
    ∃ x y z : Int, (0 ≤ x ∧ x ≤ 255) ∧ (0 ≤ y ∧ y ≤ 255) ∧ (0 ≤ z ∧ z ≤ 255) ∧ w.cell? ⟨b, off, none⟩ = some (.int .u8 x) ∧ w.cell? ⟨b, off + 1, none⟩ = some (.int .u8 y) ∧ w.cell? ⟨b, off + 2, none⟩ = some (.int .u8 z) ∧
      bits .or .i64 (bits .or .i64 (x * 65536) (y * 256)) z = (lenOf zs : Int) ∧ lenOf zs ≤ 16777215 := by
  have hc : ∀ j, j < zs.length → w.cell? ⟨b, off + j, none⟩ = some (.int .u8 (zs[j]?.getD 0)) := by
    rcases hz.1 with h | ⟨b', off', h, _, hc⟩
    · simp [h] at h3
    · simp at h; obtain ⟨rfl, rfl⟩ := h; exact hc
  refine ⟨_, _, _, hz.2 0, hz.2 1, hz.2 2, hc 0 (by omega), hc 1 (by omega), hc 2 (by omega), or3 _ _ _ (hz.2 0) (hz.2 1) (hz.2 2), ?_⟩
  have h0 := hz.2 0
  have h1 := hz.2 1
  have h2 := hz.2 2
  unfold lenOf
  omega

set_option maxHeartbeats 400000 in
theorem read_ok (ao : Option Addr) (zs : List Int) (c : Nat) (w : World) (hl : zs.length ≤ 1048579) (hlc : zs.length ≤ c) (hcm : c ≤ maxLen) (hz : Bytes w ao zs) (h3 : 3 ≤ zs.length) (hn : 3 + lenOf zs ≤ zs.length) :
    Calls Try.prog 11 #[.slice ao zs.length c] w fun e w' => ReadOk zs (lenOf zs) w e w' := by
  obtain ⟨b, off, rfl⟩ : ∃ b off, ao = some ⟨b, off, none⟩ := by
    rcases hz.1 with h | ⟨b, off, h, _⟩
    · simp [h] at h3
    · exact ⟨b, off, h⟩
  obtain ⟨x, y, z, bx, by', bz, c0, c1, c2, hb, hMb⟩ := heads hz h3
  have r1 : ∀ n n', Bytes ((w.drewN n).drewN n') (some ⟨b, off + 3, none⟩) ((zs.drop 3).take (lenOf zs)) := fun n n' => (hz.cut 3 (lenOf zs)).later (below_drewN (below_drewN (Below.refl _ _) n) n')
  have r2 : ∀ n n', Bytes ((w.drewN n).drewN n') (some ⟨b, off + (3 + lenOf zs), none⟩) (zs.drop (3 + lenOf zs)) := fun n n' => (hz.rest (3 + lenOf zs)).later (below_drewN (below_drewN (Below.refl _ _) n) n')
  have i0 : (0 : Int) < (zs.length : Int) := by omega
  have i1 : (1 : Int) < (zs.length : Int) := by omega
  have i2 : (2 : Int) < (zs.length : Int) := by omega
  have i3 : (3 : Int) + (lenOf zs : Int) ≤ (zs.length : Int) := by omega
  unfold maxLen at hcm
  clear hz
  generalize lenOf zs = M at *
  by_cases hc3 : c = 3
  · subst hc3
    obtain rfl : M = 0 := by omega
    go_enter Try.func11, Try.ntmps11
    go_wp2_with fail
    go_quiet (fail)
    go_wp2_with fail
    go_quiet (fail)
    go_wp2
    go_ret3
    refine ⟨_, _, _, _, _, _, rfl, fun h => (by cases h), ?_, ?_, Bytes.empty _ _ (by simp), Bytes.empty _ _ (List.drop_eq_nil_of_le (by omega)), below_drewN (below_drewN (Below.refl _ _) _) _⟩ <;> omega
  · by_cases hcn : c = 3 + M
    · subst hcn
      go_enter Try.func11, Try.ntmps11
      go_wp2_with fail
      go_quiet (fail)
      go_wp2_with fail
      go_quiet (fail)
      go_wp2
      go_ret3
      refine ⟨_, _, _, _, _, _, rfl, fun h => (by cases h), ?_, ?_, r1 _ _, Bytes.empty _ _ (List.drop_eq_nil_of_le (by omega)), below_drewN (below_drewN (Below.refl _ _) _) _⟩ <;> omega
    · go_enter Try.func11, Try.ntmps11
      go_wp2_with fail
      go_quiet (fail)
      go_wp2_with fail
      go_quiet (fail)
      go_wp2
      go_ret3
      refine ⟨_, _, _, _, _, _, rfl, fun h => (by cases h), ?_, ?_, r1 _ _, r2 _ _, below_drewN (below_drewN (Below.refl _ _) _) _⟩ <;> omega

set_option maxHeartbeats 400000 in
theorem read_no (ao : Option Addr) (zs : List Int) (c : Nat) (w : World) (hl : zs.length ≤ 1048579) (hlc : zs.length ≤ c) (hcm : c ≤ maxLen) (hz : Bytes w ao zs) (hn : ¬ (3 ≤ zs.length ∧ 3 + lenOf zs ≤ zs.length)) :
    Calls Try.prog 11 #[.slice ao zs.length c] w fun e w' => e = .returned (.tuple #[.slice none 0 0, .slice none 0 0, .bool false]) ∧ Below w.heap.size w w' := by
  by_cases h3 : 3 ≤ zs.length
  · obtain ⟨b, off, rfl⟩ : ∃ b off, ao = some ⟨b, off, none⟩ := by
      rcases hz.1 with h | ⟨b, off, h, _⟩
      · simp [h] at h3
      · exact ⟨b, off, h⟩
    obtain ⟨x, y, z, bx, by', bz, c0, c1, c2, hb, hMb⟩ := heads hz h3
    have i0 : (0 : Int) < (zs.length : Int) := by omega
    have i1 : (1 : Int) < (zs.length : Int) := by omega
    have i2 : (2 : Int) < (zs.length : Int) := by omega
    have i3 : (zs.length : Int) < (3 : Int) + (lenOf zs : Int) := by omega
    unfold maxLen at hcm
    clear hz hn
    generalize lenOf zs = M at *
    go_enter Try.func11, Try.ntmps11
    go_wp2_with fail
    go_quiet (fail)
    go_wp2
    go_ret3
    exact ⟨rfl, below_drewN (Below.refl _ _) _⟩
  · clear hn
    go_enter Try.func11, Try.ntmps11
    go_wp2
    go_ret3
    exact ⟨rfl, Below.refl _ _⟩

set_option maxHeartbeats 400000 in
theorem zzread_ok (ao : Option Addr) (zs : List Int) (c : Nat) (w : World) (hl : zs.length ≤ 1048579) (hlc : zs.length ≤ c) (hcm : c ≤ maxLen) (hz : Bytes w ao zs) (h3 : 3 ≤ zs.length) (hn : 3 + lenOf zs ≤ zs.length) :
    Calls Try.prog 7 #[.slice ao zs.length c] w fun e w' => ReadOk zs (lenOf zs) w e w' := by
  go_enter Try.func7, Try.ntmps7
  go_wp2_with fail
  refine (read_ok ao zs c _ hl hlc hcm hz h3 hn).mono ?_
  rintro e w' ⟨a1, n1, c1, a2, n2, c2, rfl, hnc, hn1, hn2, h1, h2, hb⟩
  have HC := hide hnc
  clear hnc
  have HM := hide hn1
  clear hn1
  have HN := hide hn2
  clear hn2
  go_wp2
  go_ret3
  exact ⟨_, _, _, _, _, _, rfl, HC.out, HM.out, HN.out, h1, h2, hb⟩

set_option maxHeartbeats 400000 in
theorem zzread_no (ao : Option Addr) (zs : List Int) (c : Nat) (w : World) (hl : zs.length ≤ 1048579) (hlc : zs.length ≤ c) (hcm : c ≤ maxLen) (hz : Bytes w ao zs) (hn : ¬ (3 ≤ zs.length ∧ 3 + lenOf zs ≤ zs.length)) :
    Calls Try.prog 7 #[.slice ao zs.length c] w fun e w' => e = .returned (.tuple #[.slice none 0 0, .slice none 0 0, .bool false]) ∧ Below w.heap.size w w' := by
  go_enter Try.func7, Try.ntmps7
  go_wp2_with fail
  refine (read_no ao zs c _ hl hlc hcm hz hn).mono ?_
  rintro e w' ⟨rfl, hb⟩
  go_wp2
  go_ret3
  exact ⟨rfl, hb⟩

end Go.Proofs.Qxb6601416a
