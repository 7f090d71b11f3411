import Derived.Test.YbulkcdeeBody
namespace Go.Proofs.Ybulkcdee
open Go.RowKit

theorem own_base {w : World} {B e size : Nat} {v : Value} {n : Nat} {xs : List Value} (h : w.ownsRow 0 e size v n xs) (hB : ∀ g, v.ownBlock = some g → B ≤ g) : w.ownsRow B e size v n xs := by
  refine ⟨h.1, ?_⟩
  rcases h.2 with hn | ⟨g, cap, cur, rfl, hb, rest⟩
  · exact .inl hn
  · exact .inr ⟨g, cap, cur, rfl, hB g rfl, rest⟩

set_option maxHeartbeats 1600000 in
theorem marsh_any (mk : Int) (kd : Value) (sh L E n : Nat) (ss : List ByteArray) (cs : List Nat) (w : World) (hs : sh ≤ 7) (hL : Hid (L = 2 ^ sh - 1)) (he : Ents w E n ss cs) (hE : E < w.heap.size) :
    Calls Yba.prog 4 #[.agg #[.slice (some ⟨E, 0, none⟩) n n], .agg #[.int .u8 mk, kd, .int .u64 sh]] w fun e w' => ∃ v', e = .returned v' ∧
      w'.ownsRow w.heap.size 5 1 v' ([Value.int .u8 mk] ++ uvb 10 n ++ entsTo sh L ss cs n).length ([Value.int .u8 mk] ++ uvb 10 n ++ entsTo sh L ss cs n) ∧ Below w.heap.size w w' := by
  obtain ⟨i0, hi, hi0, hi1, hi2⟩ := info_parts Yba.info5
  have he2 : ∀ o1 o2, Ents ((w.alloc o1).alloc o2) E n ss cs := fun o1 o2 => he.keep (((Keeps.refl (fun _ => False) w).alloc _).alloc _) (fun h => h)
  go_enter Yba.func4, Yba.ntmps4
  go_wp2_with fail
  refine (body_any _ _ sh L E n ss cs _ hs hL (he2 _ _)).mono ?_
  rintro e w1 ⟨z, rfl, hz0, hz1, hb⟩
  have hk1 := Keeps.none_below hb
  have hB0 : w1.cell? ⟨w.heap.size, 0, none⟩ = some (.slice (some ⟨E, 0, none⟩) n n) := hk1.cells (fun h => h) (by simp)
  have hF0 : w1.cell? ⟨w.heap.size + 1, 0, none⟩ = some (.int .u8 mk) := hk1.cells (fun h => h) (by simp)
  have hF1 : w1.cell? ⟨w.heap.size + 1, 1, none⟩ = some kd := hk1.cells (fun h => h) (by simp)
  have hF2 : w1.cell? ⟨w.heap.size + 1, 2, none⟩ = some (.int .u64 sh) := hk1.cells (fun h => h) (by simp)
  have hsz : w.heap.size + 2 ≤ w1.heap.size := by have := hb.size; simp at this; omega
  have hew1 : Ents w1 E n ss cs := (he2 _ _).keep hk1 (fun h => h)
  clear he2
  go_wp2_with (first
    | (at_make; refine wpList_make_own w1 rfl (.const (.int .i64 0)) (.tmp 9) 33 rfl 0 5 i0 (.int .u8 0) 1 Yba.underlying33 hi hi0 hi1 .i64 .i64 (1 + z) (1 + z).toNat rfl rfl (by omega) (by rw [hi2]; omega) (by unfold maxLen; omega) (Nat.zero_le _) ?_; intro w2 ho2 hg2; have hk2 := Keeps.of_grown (S := fun _ => False) hg2 (fun k h => by cases h); have hB2 := hk2.cells (fun h => h) hB0; have hF02 := hk2.cells (fun h => h) hF0; have hF12 := hk2.cells (fun h => h) hF1; have hF22 := hk2.cells (fun h => h) hF2; have hlt2 := (ho2.lt w1.heap.size rfl).2; clear hB0 hF0 hF1 hF2)
    | (at_builtin; refine wpList_app _ rfl (.tmp 11) (.tmp 14) 33 rfl 5 i0 (.int .u8 0) 1 1 Yba.underlying33 hi hi0 hi1 hi2 rfl (by decide) (.slice (some ⟨w1.heap.size, 0, none⟩) 0 (1 + z).toNat) 0 [] rfl (ho2.alloc _) 1 [.int .u8 mk] (Src.one_new _ _ _ rfl) (by unfold maxLen; omega) (by omega) ?_; intro v3 w3 ha3 _; have ha3' := ha3.alloc; have hB3 := ha3'.keeps.cells (fun h => by simp [Value.ownBlock] at h; omega) hB2; have hF03 := ha3'.keeps.cells (fun h => by simp [Value.ownBlock] at h; omega) hF02; have hF13 := ha3'.keeps.cells (fun h => by simp [Value.ownBlock] at h; omega) hF12; have hF23 := ha3'.keeps.cells (fun h => by simp [Value.ownBlock] at h; omega) hF22; clear ha3 hB2 hF02 hF12 hF22))
  have hv3 : ∀ g, v3.ownBlock = some g → w1.heap.size ≤ g := fun g hg => by
    rcases ha3'.moved g hg with h | h
    · simp [Value.ownBlock] at h; omega
    · omega
  have hew3 : Ents w3 E n ss cs := (hew1.keep hk2 (fun h => h)).keep ha3'.keeps (fun h => by simp [Value.ownBlock] at h; omega)
  refine (abody_any _ _ sh L E n ss cs v3 [.int .u8 mk] w3 hs hL hew3 (App.norm ha3').own (fun g hg => by have := hv3 g hg; omega) (by simp)).mono ?_
  rintro e w4 ⟨v4, rfl, ha4⟩
  have hbel : Below w.heap.size w w4 := by
    have h1 : Keeps (fun k => w1.heap.size ≤ k) w w4 := by
      refine Keeps.trans (T := fun k => v3.ownBlock = some k) ?_ ha4.keeps (fun i _ h => hv3 i h)
      refine Keeps.trans (T := fun k => Value.ownBlock (.slice (some ⟨w1.heap.size, 0, none⟩) 0 (1 + z).toNat) = some k) ?_ ha3'.keeps (fun i _ h => by simp [Value.ownBlock] at h; omega)
      refine Keeps.trans (T := fun _ => False) ?_ hk2 (fun _ _ h => h.elim)
      exact Keeps.trans (T := fun _ => False) (((Keeps.refl _ w).alloc _).alloc _) hk1 (fun _ _ h => h.elim)
    exact h1.below (Nat.le_refl _) (fun k hk => by omega)
  have hown4 : w4.ownsRow w.heap.size 5 1 v4 ([Value.int .u8 mk] ++ uvb 10 n ++ entsTo sh L ss cs n).length ([Value.int .u8 mk] ++ uvb 10 n ++ entsTo sh L ss cs n) := by
    refine own_base ha4.own (fun g hg => ?_)
    rcases ha4.moved g hg with h | h
    · have := hv3 g h; omega
    · have := ha3'.keeps.size; omega
  clear ha4 ha3' hew3 hew1 hi
  go_wp2
  go_ret
  exact ⟨v4, rfl, hown4, hbel⟩
end Go.Proofs.Ybulkcdee
