/-
  Seat b6601495a: 'append(text, "0000"[:W]...)' onto a nil slice, or onto one without spare room: the run, and an arm for the walk.
-/
import Derived.Test.Qxb6601495aPlain
import Derived.Test.Qxb6601495aNums
import Derived.WalkKit
import Derived.Lib.AppendStr
import Derived.Laws.Append
namespace Go.Proofs.Qxb6601495a
open Go.RowKit Go.Lib

/-- the string of W zeros, as the walk spells it -/
def zeros (W : Nat) : ByteArray := ByteArray.extract ⟨#[48, 48, 48, 48]⟩ 0 W

theorem zeros_size (W : Nat) (h : W ≤ 4) : (zeros W).size = W := by
  unfold zeros
  rw [ByteArray.size_extract]
  show min W 4 - 0 = W
  omega

theorem zeros_cells (W : Nat) (h : W ≤ 4) : strCells (zeros W) = (List.replicate W 48).map (Value.int .u8) := by
  match W, h with
  | 0, _ => rfl
  | 1, _ => rfl
  | 2, _ => rfl
  | 3, _ => rfl
  | 4, _ => rfl

/-- an append, by its run -/
theorem wpList_append_run {P : Program} {w w' : World} {ops : Array Oper} {rest : List Oper} {o : Oper} {a : Act} {Q : Exit → Act → World → Prop} (hgd : o.guard = none) (sl x : Operand) (t u : TypeId)
    (ho : o.op = .call { callee := .builtin .append, args := #[sl, x], argTypes := #[t, u] }) (v xv v' : Value) (hs : a.eval sl = v) (hx : a.eval x = xv)
    (hrun : ∀ ty, (Builtin.append_ #[t, u] ty #[v, xv]).run P w = .ok v' w') (h : wpList P ops Q rest (a.put o.dst v') w') : wpList P ops Q (o :: rest) a w := by
  refine wpList_plain hgd fun K hK => ?_
  unfold Oper.wp execOp
  simp only [ho, resolve, invoke, builtin, Sem.run_bind, Sem.run_pure, Result.andThen_ok, List.map_toArray, List.map_cons, List.map_nil, hs, hx, hrun o.type]
  exact hK _ _ h

section
variable {P : Program} (w : World)

/-- nothing is appended to a slice -/
theorem run_append_zero (t u ty e : TypeId) (i : TypeInfo) (ht : P.underlying t = some (.slice e)) (hu : P.underlying u = some .string) (hi : P.info? e = some i) (ao : Option Addr) (n : Nat) (h0 : ao = none → n = 0) :
    (Builtin.append_ #[t, u] ty #[.slice ao n n, .string (zeros 0)]).run P w = .ok (.slice ao n n) w := by
  have hz : (zeros 0).size = 0 := rfl
  rcases ao with _ | a
  · obtain rfl := h0 rfl
    simp [Builtin.append_, run_underlying ht, run_underlying hu, sizeOf, typeInfo, hi, Builtin.lenOf, Builtin.firstCells, hz]
  · simp [Builtin.append_, run_underlying ht, run_underlying hu, sizeOf, typeInfo, hi, Builtin.lenOf, Builtin.firstCells, hz, storeCells]

theorem grown_row (xs : List Value) (e : TypeId) (need cap : Nat) (hx : xs.length = need) (hc : need ≤ cap) (hm : cap ≤ maxLen) :
    (w.drew.alloc (.cells (xs.toArray ++ Builtin.zeroCells (Value.int .u8 0).cells (cap - need)) e)).ownsRow w.heap.size e 1 (.slice (some ⟨w.heap.size, 0, none⟩) need cap) need xs := by
  refine ⟨by omega, .inr ⟨w.heap.size, cap, _, rfl, Nat.le_refl _, heap_alloc_new w.drew _, hc, hm, ?_, ?_⟩⟩
  · simp only [Array.size_append, List.size_toArray, size_zeroCells, hx]
    show need + (cap - need) * 1 = cap * 1
    omega
  · simp [hx]
end

theorem join_rows (a b : List Value) : (a ++ b).toArray = a.toArray ++ b.toArray := by
  apply Array.ext'
  rw [Array.toList_append]

/-- the world behind an append that has made a new row -/
def grownW (w : World) (xs : List Int) (e : TypeId) (cap : Nat) : World := w.drew.alloc (.cells ((xs.map (Value.int .u8)).toArray ++ Builtin.zeroCells (Value.int .u8 0).cells (cap - xs.length)) e)

theorem zeros_data (W : Nat) (h : W ≤ 4) : (zeros W).data.map (fun b => Value.int .u8 b.toNat) = ((List.replicate W (48 : Int)).map (Value.int .u8)).toArray := by
  apply Array.ext'
  rw [Array.toList_map, List.toList_toArray]
  exact zeros_cells W h

/-- the append of W zeros, W not nought, makes a new row -/
theorem run_append_zeros {P : Program} (w : World) (t u e : TypeId) (i : TypeInfo) (ht : P.underlying t = some (.slice e)) (hu : P.underlying u = some .string) (hi : P.info? e = some i) (hz : i.zero = some (.int .u8 0)) (hs1 : i.size = 1) (hb1 : i.bytes = 1)
    (ao : Option Addr) (zs : List Int) (W : Nat) (hl : zs.length ≤ 1048576) (hW : W ≤ 4) (hW1 : 1 ≤ W) (hzs : Bytes w ao zs) :
    ∃ cap w1, (∀ ty, (Builtin.append_ #[t, u] ty #[.slice ao zs.length zs.length, .string (zeros W)]).run P w = .ok (.slice (some ⟨w.heap.size, 0, none⟩) (zs.length + W) cap) w1) ∧
      w1.ownsRow w.heap.size e 1 (.slice (some ⟨w.heap.size, 0, none⟩) (zs.length + W) cap) (zs.length + W) ((zs ++ List.replicate W 48).map (Value.int .u8)) ∧ Below w.heap.size w w1 := by
  have hsz := zeros_size W hW
  have hlen : (zs ++ List.replicate W (48 : Int)).length = zs.length + W := by simp
  refine ⟨grownCap w (zs.length + W) zs.length e, grownW w (zs ++ List.replicate W 48) e (grownCap w (zs.length + W) zs.length e), fun ty => ?_, ?_, (Below.refl _ _).drew.alloc (Nat.le_refl _) _⟩
  · rcases ao with _ | a
    · obtain rfl : zs = [] := by rcases hzs.1 with h | ⟨b, off, h, _⟩; exact h; cases h
      have h := run_append_nil_string (P := P) w t u ty e i (.int .u8 0) ht hu hi hz (zeros W) (by omega) (by omega) (by rw [hb1]; omega)
      rw [hsz, zeros_data W hW] at h
      simpa [grownW] using h
    · have h := run_append_grow_string (P := P) w t u ty e i (.int .u8 0) ht hu hi hz a zs.length zs.length (zs.map (Value.int .u8)) (by rw [hs1]; simp) hzs.news (zeros W) (by omega) (by omega) (by rw [hb1, hsz]; exact growslice_fits (by omega) (by omega))
      rw [hsz, zeros_cells W hW] at h
      rw [h]
      unfold grownW
      rw [hlen, List.map_append, join_rows]
  · have := grown_row w ((zs ++ List.replicate W (48 : Int)).map (Value.int .u8)) e (zs.length + W) (grownCap w (zs.length + W) zs.length e) (by simp) (grownCap_ge w _ _ e) (grownCap_le_maxLen w _ _ e (by unfold maxLen; omega))
    unfold grownW
    rw [hlen]
    exact this

end Go.Proofs.Qxb6601495a
