/-
  Plain lemmas for seat b6601495a: nothing of the dump.
-/
import Derived.WalkKit
import Derived.WalkSpells
namespace Go.Proofs.Qxb6601495a
open Go.RowKit

theorem hide {p : Prop} (h : p) : Hid p := h

theorem ret_int {k : IntKind} {a b : Int} (h : a = b) : Ending.returned (.int k a) = .returned (.int k b) := by rw [h]

/-- The first n cells that a slice's address leads to hold the numbers zs, each a byte. -/
def Bytes (w : World) (ao : Option Addr) (zs : List Int) : Prop :=
  (zs = [] ∨ ∃ b off, ao = some ⟨b, off, none⟩ ∧ b < w.heap.size ∧ ∀ j, j < zs.length → w.cell? ⟨b, off + j, none⟩ = some (.int .u8 (zs[j]?.getD 0)))
  ∧ ∀ j : Nat, 0 ≤ zs[j]?.getD 0 ∧ zs[j]?.getD 0 ≤ 255

theorem Bytes.later {w w' : World} {ao : Option Addr} {zs : List Int} (h : Bytes w ao zs) (hb : Below w.heap.size w w') : Bytes w' ao zs := by
  refine ⟨?_, h.2⟩
  rcases h.1 with h | ⟨b, off, rfl, hlt, hc⟩
  · exact .inl h
  · exact .inr ⟨b, off, rfl, Nat.lt_of_lt_of_le hlt hb.size, fun j hj => (hb.cell (p := ⟨b, off + j, none⟩) hlt).trans (hc j hj)⟩

theorem bcell {W w1 : World} (hb : Below W.heap.size W w1) : (∀ b o, b < W.heap.size → w1.cell? ⟨b, o, none⟩ = W.cell? ⟨b, o, none⟩) ∧ (∀ b o, b < W.heap.size → w1.frozen? ⟨b, o, none⟩ = W.frozen? ⟨b, o, none⟩) :=
  ⟨fun b o h => hb.cell (p := ⟨b, o, none⟩) h, fun b o h => hb.frozen (p := ⟨b, o, none⟩) h⟩

/-- A made row of n byte cells at block g whose first k cells hold the first k numbers of zs. -/
def Filled (wr : World) (base g : Nat) (e : TypeId) (n : Nat) (zs : List Int) (k : Nat) : Prop :=
  ∃ xs : List Value, wr.ownsRow base e 1 (.slice (some ⟨g, 0, none⟩) n n) n xs ∧ ∀ j, j < k → xs[j]? = some (.int .u8 (zs[j]?.getD 0))

theorem Filled.start {wr : World} {base g : Nat} {e : TypeId} {n : Nat} {xs : List Value} (zs : List Int) (h : wr.ownsRow base e 1 (.slice (some ⟨g, 0, none⟩) n n) n xs) : Filled wr base g e n zs 0 :=
  ⟨xs, h, fun j hj => by omega⟩

theorem Filled.cell {wr : World} {base g : Nat} {e : TypeId} {n : Nat} {zs : List Int} {k : Nat} (h : Filled wr base g e n zs k) (hk : k < n) : ∃ v, wr.cell? ⟨g, k, none⟩ = some v := by
  obtain ⟨xs, h, _⟩ := h
  have hl := h.1
  exact ⟨xs[k]'(by omega), by rw [h.cellAt k (by omega), List.getElem?_eq_getElem]⟩

theorem Filled.frozen {wr : World} {base g : Nat} {e : TypeId} {n : Nat} {zs : List Int} {k : Nat} (h : Filled wr base g e n zs k) : wr.frozen? ⟨g, k, none⟩ = false := by
  obtain ⟨xs, h, _⟩ := h
  exact h.frozenAt k

theorem Filled.step {wr : World} {base g : Nat} {e : TypeId} {n : Nat} {zs : List Int} {k : Nat} (h : Filled wr base g e n zs k) (hk : k < n) : Filled (wr.setCell ⟨g, k, none⟩ (.int .u8 (zs[k]?.getD 0))) base g e n zs (k + 1) := by
  obtain ⟨xs, h, hx⟩ := h
  have hl := h.1
  refine ⟨_, (h.stored k _).1, fun j hj => ?_⟩
  by_cases e : j = k
  · subst e; rw [List.getElem?_set_self (by omega)]
  · rw [List.getElem?_set_ne (by omega)]; exact hx j (by omega)

theorem Filled.bytes {wr : World} {base g : Nat} {e : TypeId} {n : Nat} {zs : List Int} (h : Filled wr base g e n zs n) (hn : zs.length = n) (hb : ∀ j : Nat, 0 ≤ zs[j]?.getD 0 ∧ zs[j]?.getD 0 ≤ 255) : Bytes wr (some ⟨g, 0, none⟩) zs := by
  obtain ⟨xs, h, hx⟩ := h
  refine ⟨.inr ⟨g, 0, rfl, (h.lt g rfl).2, fun j hj => ?_⟩, hb⟩
  rw [Nat.zero_add, h.cellAt j (by omega)]
  exact hx j (by omega)

/-- a row that is owned, as bytes -/
theorem owned_bytes {w : World} {base : Nat} {e : TypeId} {v : Value} {n : Nat} {zs : List Int} (h : w.ownsRow base e 1 v n (zs.map (Value.int .u8))) (hb : ∀ j : Nat, 0 ≤ zs[j]?.getD 0 ∧ zs[j]?.getD 0 ≤ 255) :
    zs.length = n ∧ ∃ ao c, v = .slice ao n c ∧ n ≤ c ∧ c ≤ maxLen ∧ Bytes w ao zs := by
  have hl := h.1
  simp only [List.length_map, Nat.mul_one] at hl
  refine ⟨hl, ?_⟩
  rcases h.2 with ⟨rfl, rfl⟩ | ⟨g, cap, cur, rfl, _, hg, h1, h2, _⟩
  · exact ⟨none, 0, rfl, Nat.le_refl _, Nat.zero_le _, .inl (List.length_eq_zero_iff.1 hl), hb⟩
  · refine ⟨_, _, rfl, h1, h2, .inr ⟨g, 0, rfl, (h.lt g rfl).2, fun j hj => ?_⟩, hb⟩
    rw [Nat.zero_add, h.cellAt j (by omega)]
    simp [hj]

/-- bytes that are cut out of a row of bytes -/
theorem getD_bytes {zs : List Int} (h : ∀ z ∈ zs, 0 ≤ z ∧ z ≤ 255) (j : Nat) : 0 ≤ zs[j]?.getD 0 ∧ zs[j]?.getD 0 ≤ 255 := by
  cases e : zs[j]? with
  | none => simp
  | some v => exact h v (List.mem_of_getElem? e)
theorem bytes_mem {zs : List Int} (h : ∀ j : Nat, 0 ≤ zs[j]?.getD 0 ∧ zs[j]?.getD 0 ≤ 255) : ∀ z ∈ zs, 0 ≤ z ∧ z ≤ 255 := by
  intro z hz
  obtain ⟨j, hj, rfl⟩ := List.getElem_of_mem hz
  have := h j
  rwa [List.getElem?_eq_getElem hj] at this

theorem Bytes.news {w : World} {a : Addr} {zs : List Int} (h : Bytes w (some a) zs) : ∀ j u, (zs.map (Value.int .u8))[j]? = some u → w.cell? (a.add j) = some u := by
  intro j u hj
  rw [List.getElem?_map] at hj
  rcases h.1 with h' | ⟨b, off, h', _, hc⟩
  · simp [h'] at hj
  · simp only [Option.some.injEq] at h'
    subst h'
    have hjl : j < zs.length := by
      rcases Nat.lt_or_ge j zs.length with h | h
      · exact h
      · rw [List.getElem?_eq_none h] at hj; simp at hj
    have hcj := hc j hjl
    rw [List.getElem?_eq_getElem hjl] at hj hcj
    simp only [Option.map_some, Option.some.injEq] at hj
    rw [show (⟨b, off, none⟩ : Addr).add j = ⟨b, off + j, none⟩ from by unfold Addr.add; split <;> simp_all]
    rw [hcj, ← hj]
    rfl

theorem one_cells (zs : List Int) : ∀ u ∈ zs.map (Value.int .u8), u.oneCell' = true := by
  intro u hu
  obtain ⟨z, _, rfl⟩ := List.mem_map.1 hu
  rfl

theorem up {w a b : World} (h : Below w.heap.size w a) (k : Below a.heap.size a b) : Below w.heap.size w b := h.trans (k.mono h.size)
theorem new {w a : World} (h : Below w.heap.size w a) (o : Obj) : Below w.heap.size w (a.alloc o) := h.alloc h.size o

end Go.Proofs.Qxb6601495a
