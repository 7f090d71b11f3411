import Derived.Test.YbulkcdeeRows
import Derived.WalkKit
import Derived.WalkLawsBesides
import Derived.WalkSpells
import Derived.Test.YbulkcdeeOwn
namespace Go.Proofs.Ybulkcdee
open Go.RowKit

theorem Yba.info5 : (Yba.prog.info? 5).map (fun i => (i.zero, i.size, i.bytes)) = some (some (.int .u8 0), 1, 1) := by kernel_rfl

/-- The varint of y, as the two Go functions write it (fuel: more than enough at 10). -/
def uvb : Nat → Nat → List Value
  | 0, _ => []
  | f + 1, y => if 128 ≤ y then .int .u8 (bits .or .u8 ((y : Int) % 256) 128) :: uvb f (y / 128) else [.int .u8 (y : Int)]

theorem uvb_len (f y : Nat) : (uvb f y).length ≤ f := by
  induction f generalizing y with
  | zero => simp [uvb]
  | succ f ih => unfold uvb; split <;> simp; exact ih _

theorem uv_more {f y x : Nat} {ys xs : List Value} (h : 128 ≤ y) (hy : Hid (y < 128 ^ f * 2)) (hl : ys.length + f ≤ xs.length + 9) (hr : Hid (ys ++ uvb (f + 1) y = xs ++ uvb 10 x)) :
    Hid (y / 128 < 128 ^ (f - 1) * 2) ∧ (ys ++ [Value.int .u8 (bits .or .u8 ((y : Int) % 256) 128)]).length + (f - 1) ≤ xs.length + 9 ∧ Hid ((ys ++ [Value.int .u8 (bits .or .u8 ((y : Int) % 256) 128)]) ++ uvb (f - 1 + 1) (y / 128) = xs ++ uvb 10 x) := by
  unfold Hid at *
  match f with
  | 0 => simp at hy; omega
  | f + 1 =>
    refine ⟨?_, by simp; omega, ?_⟩
    · rw [Nat.pow_succ] at hy; simp; omega
    · rw [← hr]
      simp only [Nat.add_sub_cancel]
      rw [show uvb (f + 1 + 1) y = .int .u8 (bits .or .u8 ((y : Int) % 256) 128) :: uvb (f + 1) (y / 128) by rw [uvb, if_pos h]]
      simp

theorem uv_last {f y x : Nat} {ys xs : List Value} (h : ¬ 128 ≤ y) (hr : Hid (ys ++ uvb (f + 1) y = xs ++ uvb 10 x)) : ys ++ [Value.int .u8 (y : Int)] = xs ++ uvb 10 x := by
  unfold Hid at hr
  rw [← hr, uvb, if_neg h]

set_option maxHeartbeats 400000 in
set_option maxRecDepth 100000 in
theorem cuv_any (v : Value) (xs : List Value) (x : Nat) (w : World) (hx1 : Hid (x < 128 ^ 9 * 2))
    (hown : w.ownsRow 0 5 1 v xs.length xs) (hn : xs.length ≤ 100000000000) :
    Calls Yba.prog 5 #[v, .int .u64 x] w fun e w' => ∃ v', e = .returned v' ∧ App 5 1 w v xs.length xs v' w' (xs ++ uvb 10 x).length (xs ++ uvb 10 x) := by
  obtain ⟨i0, hi, hz0, hz1, hz2⟩ := info_parts Yba.info5
  go_enter Yba.func5, Yba.ntmps5
  go_wp2
  go_loopw [0, 1] (fun vb vx wr => ∃ (f y : Nat) (ys : List Value), Hid (y < 128 ^ f * 2) ∧ vx = .int .u64 y ∧ App 5 1 w v xs.length xs vb wr ys.length ys ∧ ys.length + f ≤ xs.length + 9 ∧ Hid (ys ++ uvb (f + 1) y = xs ++ uvb 10 x)) (fun _ vx _ => (intOf vx).toNat)
  case atStart => exact ⟨9, x, xs, hx1, rfl, ⟨hown, Keeps.refl _ _, fun g hg => .inl hg⟩, Nat.le_refl _, rfl⟩
  case round =>
    obtain ⟨f, y, ys, hy, rfl, ho, hl, hr⟩ := hrel
    have ho2 := ho.own
    by_cases hlt : 128 ≤ y
    · go_wp2_with (at_builtin; refine wpList_app _ rfl (.tmp 7) (.tmp 11) 33 rfl 5 i0 (.int .u8 0) 1 1 Yba.underlying33 hi hz0 hz1 hz2 rfl (by decide) _ _ _ rfl (ho2.alloc _) 1 [.int .u8 (bits .or .u8 ((y : Int) % 256) 128)] (Src.one_new _ _ _ rfl) (by unfold maxLen; omega) (by omega) ?_; intro v' w1 ho1 _)
      have R := uv_more hlt hy hl hr
      have hb1 := ho.trans ho1.alloc
      clear ho1 ho2 ho hi
      go_roundw
      case rel => exact ⟨f - 1, y / 128, _, R.1, by go_num, by simpa using hb1, R.2.1, R.2.2⟩
      case measure => simp [intOf]; omega
    · go_wp2_with (at_builtin; refine wpList_app _ rfl (.tmp 15) (.tmp 18) 33 rfl 5 i0 (.int .u8 0) 1 1 Yba.underlying33 hi hz0 hz1 hz2 rfl (by decide) _ _ _ rfl (ho2.alloc _) 1 [.int .u8 (y : Int)] (Src.one_new _ _ _ rfl) (by unfold maxLen; omega) (by omega) ?_; intro v' w1 ho1 _)
      have R := uv_last hlt hr
      have hb1 := ho.trans ho1.alloc
      go_ret
      exact ⟨v', rfl, by rw [← R]; simpa using hb1⟩

set_option maxHeartbeats 400000 in
set_option maxRecDepth 100000 in
theorem auv_any (v : Value) (xs : List Value) (x : Nat) (w : World) (hx1 : Hid (x < 128 ^ 9 * 2))
    (hown : w.ownsRow 0 5 1 v xs.length xs) (hn : xs.length ≤ 100000000000) :
    Calls Yba.prog 11 #[v, .int .u64 x] w fun e w' => ∃ v', e = .returned v' ∧ App 5 1 w v xs.length xs v' w' (xs ++ uvb 10 x).length (xs ++ uvb 10 x) := by
  obtain ⟨i0, hi, hz0, hz1, hz2⟩ := info_parts Yba.info5
  go_enter Yba.func11, Yba.ntmps11
  go_wp2
  go_loopw [0, 1] (fun vb vx wr => ∃ (f y : Nat) (ys : List Value), Hid (y < 128 ^ f * 2) ∧ vx = .int .u64 y ∧ App 5 1 w v xs.length xs vb wr ys.length ys ∧ ys.length + f ≤ xs.length + 9 ∧ Hid (ys ++ uvb (f + 1) y = xs ++ uvb 10 x)) (fun _ vx _ => (intOf vx).toNat)
  case atStart => exact ⟨9, x, xs, hx1, rfl, ⟨hown, Keeps.refl _ _, fun g hg => .inl hg⟩, Nat.le_refl _, rfl⟩
  case round =>
    obtain ⟨f, y, ys, hy, rfl, ho, hl, hr⟩ := hrel
    have ho2 := ho.own
    by_cases hlt : 128 ≤ y
    · go_wp2_with (at_builtin; refine wpList_app _ rfl (.tmp 7) (.tmp 11) 33 rfl 5 i0 (.int .u8 0) 1 1 Yba.underlying33 hi hz0 hz1 hz2 rfl (by decide) _ _ _ rfl (ho2.alloc _) 1 [.int .u8 (bits .or .u8 ((y : Int) % 256) 128)] (Src.one_new _ _ _ rfl) (by unfold maxLen; omega) (by omega) ?_; intro v' w1 ho1 _)
      have R := uv_more hlt hy hl hr
      have hb1 := ho.trans ho1.alloc
      clear ho1 ho2 ho hi
      go_roundw
      case rel => exact ⟨f - 1, y / 128, _, R.1, by go_num, by simpa using hb1, R.2.1, R.2.2⟩
      case measure => simp [intOf]; omega
    · go_wp2_with (at_builtin; refine wpList_app _ rfl (.tmp 15) (.tmp 18) 33 rfl 5 i0 (.int .u8 0) 1 1 Yba.underlying33 hi hz0 hz1 hz2 rfl (by decide) _ _ _ rfl (ho2.alloc _) 1 [.int .u8 (y : Int)] (Src.one_new _ _ _ rfl) (by unfold maxLen; omega) (by omega) ?_; intro v' w1 ho1 _)
      have R := uv_last hlt hr
      have hb1 := ho.trans ho1.alloc
      go_ret
      exact ⟨v', rfl, by rw [← R]; simpa using hb1⟩

end Go.Proofs.Ybulkcdee
