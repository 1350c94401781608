/-
  Seat b6601412a: the plain law: the names of two builds are equal just when the builds are, or neither has a revision.
-/
import Derived.Test.Qxb6601412aCalls
namespace Go.Proofs.Qxb6601412a
open Go.RowKit

def sufL : List UInt8 := [43, 109, 111, 100, 105, 102, 105, 101, 100]
def unkL : List UInt8 := [117, 110, 107, 110, 111, 119, 110]
def leaseL : List UInt8 := [108, 101, 97, 115, 101]
def leaseSL : List UInt8 := [108, 101, 97, 115, 101, 47]
def strL (l : List UInt8) (m : Bool) : List UInt8 := if l = [] then unkL else if m = true then l ++ sufL else l
def uaL (l : List UInt8) (m : Bool) : List UInt8 := if l = [] then leaseL else leaseSL ++ strL l m

theorem toList_append (a b : ByteArray) : (a ++ b).toList = a.toList ++ b.toList := by
  rw [ByteArray.toList_eq, ByteArray.toList_eq, ByteArray.toList_eq, ByteArray.data_append, Array.toList_append]

theorem isEmpty_iff (l : List UInt8) : (l.isEmpty = true) = (l = []) := by cases l <;> simp

theorem strOf_toList (r : ByteArray) (m : Bool) : (strOf r m).toList = strL r.toList m := by
  unfold strOf strL
  simp only [isEmpty_iff]
  split
  · rw [ByteArray.toList_eq]; rfl
  · split
    · rw [toList_append]
      congr 1
      rw [ByteArray.toList_eq]; rfl
    · rfl

theorem uaOf_toList (r : ByteArray) (m : Bool) : (uaOf r m).toList = uaL r.toList m := by
  unfold uaOf uaL
  simp only [isEmpty_iff]
  split
  · rw [ByteArray.toList_eq]; rfl
  · rw [toList_append, strOf_toList]
    congr 1
    rw [ByteArray.toList_eq]; rfl

theorem mem_suf : (43 : UInt8) ∈ sufL := by decide
theorem nmem_unk : (43 : UInt8) ∉ unkL := by decide

theorem strL_sep (l k : List UInt8) (m n : Bool) (hl : 43 ∉ l) (hk : 43 ∉ k) (ul : l ≠ unkL) (uk : k ≠ unkL) :
    strL l m = strL k n ↔ (l = k ∧ m = n) ∨ (l = [] ∧ k = []) := by
  have e1 : ∀ x y : List UInt8, 43 ∉ y → x ++ sufL ≠ y := fun x y hy e => hy (e ▸ List.mem_append_right _ mem_suf)
  unfold strL
  by_cases h1 : l = []
  · by_cases h2 : k = []
    · simp [h1, h2]
    · rw [if_pos h1, if_neg h2]
      have hne : ¬ (l = k) := fun e => h2 (e ▸ h1)
      cases n
      · simp only [Bool.false_eq_true, if_false]
        exact ⟨fun e => absurd e.symm uk, fun e => by rcases e with e | e; exact absurd e.1 hne; exact absurd e.2 h2⟩
      · simp only [if_true]
        exact ⟨fun e => absurd e.symm (e1 k unkL nmem_unk), fun e => by rcases e with e | e; exact absurd e.1 hne; exact absurd e.2 h2⟩
  · rw [if_neg h1]
    by_cases h2 : k = []
    · rw [if_pos h2]
      have hne : ¬ (l = k) := fun e => h1 (e ▸ h2)
      cases m
      · simp only [Bool.false_eq_true, if_false]
        exact ⟨fun e => absurd e ul, fun e => by rcases e with e | e; exact absurd e.1 hne; exact absurd e.1 h1⟩
      · simp only [if_true]
        exact ⟨fun e => absurd e (e1 l unkL nmem_unk), fun e => by rcases e with e | e; exact absurd e.1 hne; exact absurd e.1 h1⟩
    · rw [if_neg h2]
      cases m <;> cases n <;> simp [h1]
      · exact fun e => e1 k l hl e.symm
      · exact e1 l k hk

theorem uaL_sep (l k : List UInt8) (m n : Bool) (hl : 43 ∉ l) (hk : 43 ∉ k) (ul : l ≠ unkL) (uk : k ≠ unkL) :
    uaL l m = uaL k n ↔ (l = k ∧ m = n) ∨ (l = [] ∧ k = []) := by
  have e1 : ∀ x : List UInt8, leaseL ≠ leaseSL ++ x := fun x e => by
    have := congrArg List.length e
    simp [leaseL, leaseSL] at this
  by_cases h1 : l = []
  · by_cases h2 : k = []
    · simp [h1, h2, uaL]
    · have hne : ¬ (l = k) := fun e => h2 (e ▸ h1)
      unfold uaL
      rw [if_pos h1, if_neg h2]
      exact ⟨fun e => absurd e (e1 _), fun e => by rcases e with e | e; exact absurd e.1 hne; exact absurd e.2 h2⟩
  · by_cases h2 : k = []
    · have hne : ¬ (l = k) := fun e => h1 (e ▸ h2)
      unfold uaL
      rw [if_pos h2, if_neg h1]
      exact ⟨fun e => absurd e.symm (e1 _), fun e => by rcases e with e | e; exact absurd e.1 hne; exact absurd e.1 h1⟩
    · rw [← strL_sep l k m n hl hk ul uk]
      unfold uaL
      rw [if_neg h1, if_neg h2]
      simp

/-- are the two builds the same, or both without a revision? -/
def sameB (a0 : ByteArray) (a1 : Bool) (a2 : ByteArray) (a3 : Bool) : Bool := (a0.toList == a2.toList && a1 == a3) || (a0.toList.isEmpty && a2.toList.isEmpty)

theorem sameB_iff (a0 : ByteArray) (a1 : Bool) (a2 : ByteArray) (a3 : Bool) : sameB a0 a1 a2 a3 = true ↔ (a0.toList = a2.toList ∧ a1 = a3) ∨ (a0.toList = [] ∧ a2.toList = []) := by
  simp [sameB]

theorem not_mem (s : ByteArray) (hp : ∀ k (h : k < s.size), s[k] ≠ 43) : (43 : UInt8) ∉ s.toList := by
  rw [ByteArray.toList_eq]
  intro h
  obtain ⟨k, hk, e⟩ := List.getElem_of_mem h
  exact hp k (by simpa using hk) e

theorem str_same (a0 : ByteArray) (a1 : Bool) (a2 : ByteArray) (a3 : Bool) (h0 : ∀ k (h : k < a0.size), a0[k] ≠ 43) (h2 : ∀ k (h : k < a2.size), a2[k] ≠ 43) (u0 : a0.toList ≠ unkL) (u2 : a2.toList ≠ unkL) :
    ((strOf a0 a1).toList == (strOf a2 a3).toList) = sameB a0 a1 a2 a3 := by
  rw [Bool.eq_iff_iff, sameB_iff, beq_iff_eq, strOf_toList, strOf_toList]
  exact strL_sep _ _ _ _ (not_mem _ h0) (not_mem _ h2) u0 u2

theorem ua_same (a0 : ByteArray) (a1 : Bool) (a2 : ByteArray) (a3 : Bool) (h0 : ∀ k (h : k < a0.size), a0[k] ≠ 43) (h2 : ∀ k (h : k < a2.size), a2[k] ≠ 43) (u0 : a0.toList ≠ unkL) (u2 : a2.toList ≠ unkL) :
    ((uaOf a0 a1).toList == (uaOf a2 a3).toList) = sameB a0 a1 a2 a3 := by
  rw [Bool.eq_iff_iff, sameB_iff, beq_iff_eq, uaOf_toList, uaOf_toList]
  exact uaL_sep _ _ _ _ (not_mem _ h0) (not_mem _ h2) u0 u2

end Go.Proofs.Qxb6601412a
