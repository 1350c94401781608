/-
  Plain lemmas for seat b6600725a: nothing of the dump.
-/
import Derived.WalkKit
import Derived.WalkSpells
namespace Go.Proofs.Qxb6600725a
open Go.RowKit

theorem ret_int {k : IntKind} {a b : Int} (h : a = b) : Ending.returned (.int k a) = .returned (.int k b) := by rw [h]

/-- the size of one field -/
def fsz (z : Int) : Int := if z = 3 then 1 else 4
/-- the size of the first k fields -/
def tot (zs : List Int) : Int := (zs.map fsz).sum

theorem tot_snoc (zs : List Int) (k : Nat) (h : k < zs.length) : tot (zs.take (k + 1)) = tot (zs.take k) + fsz (zs[k]?.getD 0) := by
  unfold tot
  rw [List.take_succ_eq_append_getElem h, List.map_append, List.sum_append, List.getElem?_eq_getElem h]
  simp

theorem fsz_bd (z : Int) : 1 ≤ fsz z ∧ fsz z ≤ 4 := by unfold fsz; split <;> omega

theorem tot_bd (zs : List Int) : 0 ≤ tot zs ∧ tot zs ≤ 4 * zs.length := by
  induction zs with
  | nil => simp [tot]
  | cons a t ih =>
    have := fsz_bd a
    simp only [tot, List.map_cons, List.sum_cons, List.length_cons] at ih ⊢
    omega

/-- how many are the extended id -/
def exts (zs : List Int) : Nat := (zs.filter fun z => z == 3).length
theorem exts_snoc (zs : List Int) (k : Nat) (h : k < zs.length) : exts (zs.take (k + 1)) = exts (zs.take k) + if (zs[k]?.getD 0 == 3) = true then 1 else 0 := by
  unfold exts
  rw [List.take_succ_eq_append_getElem h, List.filter_append]
  simp only [List.getElem?_eq_getElem h, Option.getD_some, List.length_append]
  by_cases e : zs[k] = 3 <;> simp [e]
theorem exts_le (zs : List Int) : exts zs ≤ zs.length := List.length_filter_le _ _
theorem tot_closed (zs : List Int) : tot zs = 4 * zs.length - 3 * exts zs := by
  induction zs with
  | nil => simp [tot, exts]
  | cons a t ih =>
    simp only [tot, exts, List.map_cons, List.sum_cons, List.length_cons, List.filter_cons] at ih ⊢
    by_cases e : a = 3 <;> simp [fsz, e] at ih ⊢ <;> omega

/-- The first n cells that a slice's address leads to hold the numbers zs, each a byte. -/
def Bytes (w : World) (ao : Option Addr) (zs : List Int) : Prop :=
  (zs = [] ∨ ∃ b off, ao = some ⟨b, off, none⟩ ∧ b < w.heap.size ∧ ∀ j, j < zs.length → w.cell? ⟨b, off + j, none⟩ = some (.int .u8 (zs[j]?.getD 0)))
  ∧ ∀ j : Nat, 0 ≤ zs[j]?.getD 0 ∧ zs[j]?.getD 0 ≤ 255

theorem Bytes.later {w w' : World} {ao : Option Addr} {zs : List Int} (h : Bytes w ao zs) (hb : Below w.heap.size w w') : Bytes w' ao zs := by
  refine ⟨?_, h.2⟩
  rcases h.1 with h | ⟨b, off, rfl, hlt, hc⟩
  · exact .inl h
  · exact .inr ⟨b, off, rfl, Nat.lt_of_lt_of_le hlt hb.size, fun j hj => (hb.cell (p := ⟨b, off + j, none⟩) hlt).trans (hc j hj)⟩

theorem bcell {W w1 : World} (hb : Below W.heap.size W w1) : (∀ b o, b < W.heap.size → w1.cell? ⟨b, o, none⟩ = W.cell? ⟨b, o, none⟩) ∧ (∀ b o, b < W.heap.size → w1.frozen? ⟨b, o, none⟩ = W.frozen? ⟨b, o, none⟩) :=
  ⟨fun b o h => hb.cell (p := ⟨b, o, none⟩) h, fun b o h => hb.frozen (p := ⟨b, o, none⟩) h⟩

/-- A made row of n byte cells at block g whose first k cells hold the first k numbers of zs. -/
def Filled (wr : World) (base g : Nat) (e : TypeId) (n : Nat) (zs : List Int) (k : Nat) : Prop :=
  ∃ xs : List Value, wr.ownsRow base e 1 (.slice (some ⟨g, 0, none⟩) n n) n xs ∧ ∀ j, j < k → xs[j]? = some (.int .u8 (zs[j]?.getD 0))

theorem Filled.start {wr : World} {base g : Nat} {e : TypeId} {n : Nat} {xs : List Value} (zs : List Int) (h : wr.ownsRow base e 1 (.slice (some ⟨g, 0, none⟩) n n) n xs) : Filled wr base g e n zs 0 :=
  ⟨xs, h, fun j hj => by omega⟩

theorem Filled.cell {wr : World} {base g : Nat} {e : TypeId} {n : Nat} {zs : List Int} {k : Nat} (h : Filled wr base g e n zs k) (hk : k < n) : ∃ v, wr.cell? ⟨g, k, none⟩ = some v := by
  obtain ⟨xs, h, _⟩ := h
  have hl := h.1
  exact ⟨xs[k]'(by omega), by rw [h.cellAt k (by omega), List.getElem?_eq_getElem]⟩

theorem Filled.frozen {wr : World} {base g : Nat} {e : TypeId} {n : Nat} {zs : List Int} {k : Nat} (h : Filled wr base g e n zs k) : wr.frozen? ⟨g, k, none⟩ = false := by
  obtain ⟨xs, h, _⟩ := h
  exact h.frozenAt k

theorem Filled.step {wr : World} {base g : Nat} {e : TypeId} {n : Nat} {zs : List Int} {k : Nat} (h : Filled wr base g e n zs k) (hk : k < n) : Filled (wr.setCell ⟨g, k, none⟩ (.int .u8 (zs[k]?.getD 0))) base g e n zs (k + 1) := by
  obtain ⟨xs, h, hx⟩ := h
  have hl := h.1
  refine ⟨_, (h.stored k _).1, fun j hj => ?_⟩
  by_cases e : j = k
  · subst e; rw [List.getElem?_set_self (by omega)]
  · rw [List.getElem?_set_ne (by omega)]; exact hx j (by omega)

theorem Filled.bytes {wr : World} {base g : Nat} {e : TypeId} {n : Nat} {zs : List Int} (h : Filled wr base g e n zs n) (hn : zs.length = n) (hb : ∀ j : Nat, 0 ≤ zs[j]?.getD 0 ∧ zs[j]?.getD 0 ≤ 255) : Bytes wr (some ⟨g, 0, none⟩) zs := by
  obtain ⟨xs, h, hx⟩ := h
  refine ⟨.inr ⟨g, 0, rfl, (h.lt g rfl).2, fun j hj => ?_⟩, hb⟩
  rw [Nat.zero_add, h.cellAt j (by omega)]
  exact hx j (by omega)

end Go.Proofs.Qxb6600725a
