/-
  Seat b6601416a: contracts of appendVector24 (12) and ZZappendVector24 (8), onto nil.
-/
import Derived.Test.Qxb6601416aClone
import Derived.WalkKit
import Derived.WalkSpells
import Derived.WalkLawsBesides
import Derived.Laws.AppendOwnNone
namespace Go.Proofs.Qxb6601416a
open Go.RowKit

/-- the three bytes of the length, then the bytes -/
def enc (zs : List Int) : List Int := [(zs.length : Int) / 65536, (zs.length : Int) / 256 % 256, (zs.length : Int) % 256] ++ zs

/-- what appendVector24 leaves -/
def AppendOk (zs : List Int) (w : World) (e : Ending) (w' : World) : Prop :=
  ∃ v, e = .returned v ∧ w'.ownsRow w.heap.size 5 1 v (3 + zs.length) ((enc zs).map (Value.int .u8)) ∧ Below w.heap.size w w'

theorem three_new (w : World) (x y z : Value) (e : TypeId) : ∀ j u, [x, y, z][j]? = some u → (w.alloc (.cells #[x, y, z] e)).cell? ((⟨w.heap.size, 0, none⟩ : Addr).add j) = some u := by
  intro j u hj
  rw [show (⟨w.heap.size, 0, none⟩ : Addr).add j = ⟨w.heap.size, j, none⟩ from by unfold Addr.add; split <;> simp_all, World.cell?_alloc_at _ _ _ _ rfl]
  match j, hj with
  | 0, hj => simpa using hj
  | 1, hj => simpa using hj
  | 2, hj => simpa using hj
  | j + 3, hj => simp at hj

theorem own_below {w W w' : World} {v : Value} {n : Nat} {xs : List Value} (h : Below w.heap.size w W) (hown : W.ownsRow w.heap.size 5 1 v n xs) (hg : W.grownBy w' v.ownBlock) : Below w.heap.size w w' :=
  h.grown hg h.size (fun k hk => (hown.lt k hk).1)

set_option maxHeartbeats 1000000 in
theorem append_any (ao : Option Addr) (zs : List Int) (c : Nat) (w : World) (hl : zs.length ≤ 1048576) (hnc : ao = none → c = 0) (hz : Bytes w ao zs) :
    Calls Try.prog 12 #[.slice none 0 0, .slice ao zs.length c] w fun e w' => AppendOk zs w e w' := by
  obtain ⟨i0, hi, hz0, hz1, hz2⟩ := info_parts info5
  rcases ao with _ | a
  · obtain rfl : c = 0 := hnc rfl
    obtain rfl : zs = [] := by rcases hz.1 with h | ⟨b, off, h, _⟩; exact h; cases h
    go_enter Try.func12, Try.ntmps12
    go_wp2_with (first | (at_builtin; refine wpList_append_own _ rfl (.tmp 8) (.tmp 17) 22 rfl w.heap.size 5 i0 (.int .u8 0) 1 1 Try.underlying22 hi hz0 hz1 hz2 rfl (by decide) _ 0 [] rfl (World.ownsRow_nil _ _ _ _) ⟨w.heap.size, 0, none⟩ 3 3 [.int .u8 0, .int .u8 0, .int .u8 0] rfl rfl (three_new _ _ _ _ _) (one_cells [0, 0, 0]) (by decide) (by decide) (by simp) ?_; intro v1 w1 hown1 hgrow1 _) | (at_builtin; refine wpList_append_own_none rfl (.tmp 19) (.tmp 20) 22 rfl w.heap.size 5 i0 1 Try.underlying22 hi v1 3 _ rfl hown1 rfl ?_))
    go_ret
    exact ⟨v1, rfl, hown1, own_below (new (Below.refl _ _) _) (World.ownsRow_nil _ _ _ _) hgrow1⟩
  · clear hnc
    go_enter Try.func12, Try.ntmps12
    go_wp2_with (first | (at_builtin; refine wpList_append_own _ rfl (.tmp 8) (.tmp 17) 22 rfl w.heap.size 5 i0 (.int .u8 0) 1 1 Try.underlying22 hi hz0 hz1 hz2 rfl (by decide) _ 0 [] rfl (World.ownsRow_nil _ _ _ _) ⟨w.heap.size, 0, none⟩ 3 3 [.int .u8 ((zs.length : Int) / 65536), .int .u8 ((zs.length : Int) / 256 % 256), .int .u8 ((zs.length : Int) % 256)] rfl rfl (three_new _ _ _ _ _) (one_cells [(zs.length : Int) / 65536, (zs.length : Int) / 256 % 256, (zs.length : Int) % 256]) (by decide) (by decide) (by simp) ?_; intro v1 w1 hown1 hgrow1 _; have hb1 := own_below (new (Below.refl _ _) _) (World.ownsRow_nil _ _ _ _) hgrow1) | (at_builtin; refine wpList_append_own _ rfl (.tmp 19) (.tmp 20) 22 rfl w.heap.size 5 i0 (.int .u8 0) 1 1 Try.underlying22 hi hz0 hz1 hz2 rfl (by decide) v1 3 _ rfl hown1 a zs.length c (zs.map (Value.int .u8)) rfl (by simp) (hz.later hb1).news (one_cells zs) (by unfold maxLen; omega) (by omega) hb1.size ?_; intro v2 w2 hown2 hgrow2 _))
    go_ret
    exact ⟨v2, rfl, by simpa [enc] using hown2, own_below hb1 hown1 hgrow2⟩

set_option maxHeartbeats 400000 in
theorem zzappend_any (ao : Option Addr) (zs : List Int) (c : Nat) (w : World) (hl : zs.length ≤ 1048576) (hnc : ao = none → c = 0) (hz : Bytes w ao zs) :
    Calls Try.prog 8 #[.slice none 0 0, .slice ao zs.length c] w fun e w' => AppendOk zs w e w' := by
  go_enter Try.func8, Try.ntmps8
  go_wp2_with fail
  refine (append_any ao zs c _ hl hnc hz).mono ?_
  rintro e w' ⟨v, rfl, ho, hb⟩
  go_wp2
  go_ret
  exact ⟨v, rfl, ho, hb⟩

theorem zzappend_n (ao : Option Addr) (zs : List Int) (n c : Nat) (w : World) (hn : n = zs.length) (hl : n ≤ 1048576) (hnc : ao = none → c = 0) (hz : Bytes w ao zs) :
    Calls Try.prog 8 #[.slice none 0 0, .slice ao n c] w fun e w' => AppendOk zs w e w' := by
  subst hn
  exact zzappend_any ao zs c w hl hnc hz

theorem enc_bytes {zs : List Int} (hl : zs.length ≤ 1048576) (h : ∀ j : Nat, 0 ≤ zs[j]?.getD 0 ∧ zs[j]?.getD 0 ≤ 255) : ∀ j : Nat, 0 ≤ (enc zs)[j]?.getD 0 ∧ (enc zs)[j]?.getD 0 ≤ 255 := by
  refine getD_bytes fun z hz => ?_
  simp only [enc, List.mem_append, List.mem_cons, List.not_mem_nil, or_false] at hz
  rcases hz with (rfl | rfl | rfl) | hz
  · omega
  · omega
  · omega
  · exact bytes_mem h z hz
theorem enc_length (zs : List Int) : (enc zs).length = 3 + zs.length := by simp [enc]; omega

end Go.Proofs.Qxb6601416a
