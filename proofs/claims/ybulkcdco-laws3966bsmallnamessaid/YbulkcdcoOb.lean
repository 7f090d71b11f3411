import Derived.Test.YbulkcdcoFn
namespace Go.Proofs.Ybulkcdco
open Go.RowKit

theorem eff_any (w : World) (x : Nat) (hx : x < 256) : Calls Yba.prog 8 #[.int .u8 x] w fun r w' => ∃ e : ByteArray, r = .returned (.string e) ∧ (e == ⟨#[97, 108, 108, 111, 119]⟩) = decide (x % 4 = 0) ∧ Keeps (fun _ => False) w w' := by
  have hm : x % 4 = 0 ∨ x % 4 = 1 ∨ x % 4 = 2 ∨ x % 4 = 3 := by omega
  rcases hm with h | h | h | h
  all_goals
    rw [h]
    go_enter Yba.func8, Yba.ntmps8
    go_wp2
    go_ret
    exact ⟨_, rfl, by decide, (Keeps.refl _ w).alloc _⟩

/-- An object. -/
structure Ob where
  k : ByteArray
  p : ByteArray
  r : ByteArray
  lo : Nat
  hi : Nat
def Ob.cells (o : Ob) : List Value := [.string o.k, .string o.p, .string o.r, .int .u16 (o.lo : Int), .int .u16 (o.hi : Int)]
def Ob.v (o : Ob) : Value := .agg #[.string o.k, .string o.p, .string o.r, .int .u16 (o.lo : Int), .int .u16 (o.hi : Int)]
structure Ob.Ok (o : Ob) : Prop where
  k : o.k.size ≤ 5
  p : o.p.size ≤ 5
  r : o.r.size ≤ 5
  lo : o.lo < 65536
  hi : o.hi < 65536

theorem heap4 (w : World) (A B C D : Obj) : ((((w.alloc A).alloc B).alloc C).alloc D).heap[w.heap.size + 1]? = some B := by
  rw [heap_alloc_old, heap_alloc_old, heap_alloc2_new]
  all_goals simp

set_option maxHeartbeats 3200000 in
theorem obj_any (w : World) (k p lo hi ef : Nat) (ln : Int) (hk : k < 256) (hp : p < 256) (hlo : lo < 65536) (hhi : hi < 65536) :
    Calls Yba.prog 6 #[.agg #[.int .u8 k, .int .u8 p, .int .u16 lo, .int .u16 hi, .int .u8 ef, .int .i64 ln]] w fun r w' => ∃ o : Ob, r = .returned o.v ∧ o.Ok ∧ (o.k == ⟨#[112, 111, 114, 116, 115]⟩) = decide (k % 4 = 3) ∧ Keeps (fun _ => False) w w' := by
  have hm : k % 4 = 0 ∨ k % 4 = 1 ∨ k % 4 = 2 ∨ k % 4 = 3 := by omega
  rcases hm with h | h | h | h
  · have hp4 : p % 4 = 0 ∨ p % 4 = 1 ∨ p % 4 = 2 ∨ p % 4 = 3 := by omega
    rcases hp4 with h4 | h4 | h4 | h4
    all_goals
      rw [h]
      go_enter Yba.func6, Yba.ntmps6
      go_wp2
      refine bodyPost_ret (results_cell_row (p := 2) (ty := 37) rfl _ _ (w.heap.size + 1) 37 _ (0, 0) _ rfl (heap4 w _ _ _ _) Yba.underlying37 rfl (by kernel_rfl)) rfl ?_
      exact ⟨⟨_, _, _, 0, 0⟩, rfl, ⟨by decide, by decide, by decide, by decide, by decide⟩, by decide, ((((Keeps.refl _ w).alloc _).alloc _).alloc _).alloc _⟩
  · have hp4 : p % 4 = 0 ∨ p % 4 = 1 ∨ p % 4 = 2 ∨ p % 4 = 3 := by omega
    rcases hp4 with h4 | h4 | h4 | h4
    all_goals
      rw [h]
      go_enter Yba.func6, Yba.ntmps6
      go_wp2
      refine bodyPost_ret (results_cell_row (p := 2) (ty := 37) rfl _ _ (w.heap.size + 1) 37 _ (0, 0) _ rfl (heap4 w _ _ _ _) Yba.underlying37 rfl (by kernel_rfl)) rfl ?_
      exact ⟨⟨_, _, _, 0, 0⟩, rfl, ⟨by decide, by decide, by decide, by decide, by decide⟩, by decide, ((((Keeps.refl _ w).alloc _).alloc _).alloc _).alloc _⟩
  · rw [h]
    go_enter Yba.func6, Yba.ntmps6
    go_wp2
    refine bodyPost_ret (results_cell_row (p := 2) (ty := 37) rfl _ _ (w.heap.size + 1) 37 _ (0, 0) _ rfl (heap4 w _ _ _ _) Yba.underlying37 rfl (by kernel_rfl)) rfl ?_
    exact ⟨⟨_, _, _, 0, 0⟩, rfl, ⟨by decide, by decide, by decide, by decide, by decide⟩, by decide, ((((Keeps.refl _ w).alloc _).alloc _).alloc _).alloc _⟩
  · have hp3 : p % 3 = 0 ∨ p % 3 = 1 ∨ p % 3 = 2 := by omega
    rcases hp3 with h4 | h4 | h4
    all_goals
      rw [h]
      go_enter Yba.func6, Yba.ntmps6
      go_wp2
      go_region
      go_wp2
      refine bodyPost_ret (results_cell_row (p := 2) (ty := 37) rfl _ _ (w.heap.size + 1) 37 _ (0, 0) _ rfl (show (World.drew _).heap[w.heap.size + 1]? = _ from heap4 w _ _ _ _) Yba.underlying37 rfl (by kernel_rfl)) rfl ?_
      exact ⟨⟨_, _, _, lo % 4, hi % 4⟩, rfl, ⟨by dsimp only; decide, by dsimp only; decide, by dsimp only; decide, by show lo % 4 < _; omega, by show hi % 4 < _; omega⟩, by dsimp only; decide, (((((Keeps.refl _ w).alloc _).alloc _).alloc _).alloc _).drew⟩
end Go.Proofs.Ybulkcdco
