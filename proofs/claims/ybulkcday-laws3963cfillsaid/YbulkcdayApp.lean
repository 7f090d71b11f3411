import Derived.Test.YbulkcdayNd
import Derived.Deep.RegionLaw
namespace Go.Proofs.Ybulkcday
open Go.RowKit

theorem App.shape {e : TypeId} {w w' : World} {g n c n' : Nat} {v' : Value} {xs xs' : List Value} (h : App e 1 w (.slice (some ⟨g, 0, none⟩) n c) n xs v' w' n' xs') (h0 : 0 < n') :
    ∃ g' c', v' = .slice (some ⟨g', 0, none⟩) n' c' ∧ n' ≤ c' ∧ c' ≤ 9223372036854775807 ∧ w'.ownsRow 0 e 1 (.slice (some ⟨g', 0, none⟩) n' c') n' xs' ∧ Keeps (fun b => b = g) w w' ∧ (g' = g ∨ w.heap.size ≤ g') := by
  obtain ⟨g', c', rfl, h1, h2, h3, h4, h5⟩ := own_some h.own h0
  refine ⟨g', c', rfl, h1, h2, h.own, h.keeps.mono (fun b _ hb => ?_), ?_⟩
  · simp [Value.ownBlock] at hb; exact hb.symm
  · rcases h.moved g' rfl with hx | hx
    · simp [Value.ownBlock] at hx; exact .inl hx.symm
    · exact .inr hx

set_option maxHeartbeats 1600000 in
set_option maxRecDepth 100000 in
theorem app_raw {w : World} {p gt T ct ge N ce : Nat} {vk : Value} {X : List Value} {zl : List Nat} (h : Raw w p gt T ct ge N ce vk X (ivals zl)) (hN : N ≤ 10000) (hT : T ≤ 1000000)
    (x : Value) (m : Nat) (k : List Value) (hsrc : Src w 1 x m k) (hm0 : 0 < m) (hm1 : m ≤ 100) :
    Calls Yba.prog 31 #[.pointer (some ⟨p, 0, none⟩), x] w fun r w' => r = .returned (.tuple #[]) ∧ ∃ gt' ct' ge' ce', Raw w' p gt' (T + m) ct' ge' (N + 1) ce' vk (X ++ k) (ivals (zl ++ [T + m])) ∧
      Keeps (fun b => b = p ∨ b = gt ∨ b = ge) w w' ∧ (gt' = gt ∨ w.heap.size ≤ gt') ∧ (ge' = ge ∨ w.heap.size ≤ ge') := by
  obtain ⟨i5, hi5, hz5, hs5, hb5⟩ := info_parts Yba.info5
  obtain ⟨i3, hi3, hz3, hs3, hb3⟩ := info_parts Yba.info3
  obtain ⟨ao, cx, rfl, hao, -⟩ := id hsrc.at_
  generalize hZ : ivals zl = Z at h
  have HZ := Hid.mk' hZ
  clear hZ
  obtain ⟨c0, c1, f0, f1⟩ := h.cells
  have hpl : p < w.heap.size := (Array.getElem?_eq_some_iff.1 h.blk).1
  have hgl := (h.txt.lt gt rfl).2
  have hel := (h.ens.lt ge rfl).2
  go_enter Yba.func31, Yba.ntmps31
  go_upto_region 1 with (at_builtin; refine wpList_app _ rfl (.tmp 8) (.tmp 9) 25 rfl 5 i5 (.int .u8 0) 1 1 Yba.underlying25 hi5 hz5 hs5 hb5 rfl (by omega) (.slice (some ⟨gt, 0, none⟩) T ct) T X rfl h.txt m k hsrc (by unfold maxLen; omega) (by omega) ?_; intro v1 w1 hA1 hn1; obtain ⟨gt', ct', rfl, hnc1, hcm1, hob1, hk1, hm1'⟩ := hA1.shape (by omega); have d0 : w1.cell? ⟨p, 0, none⟩ = some (.slice (some ⟨gt, 0, none⟩) T ct) := hk1.cells h.pt c0; have d1 : w1.frozen? ⟨p, 0, none⟩ = false := (World.frozen?_of_block (hk1.block p hpl h.pt)).trans f0)
  have R2 := h.store0 hk1 hob1 hm1'
  have hF2 : Keeps (fun b => b = p ∨ b = gt) w (w1.setCell ⟨p, 0, none⟩ (.slice (some ⟨gt', 0, none⟩) (T + m) ct')) := (hk1.mono (fun _ _ h => .inr h)).setCell (p := ⟨p, 0, none⟩) (fun _ => .inl rfl) _
  generalize (w1.setCell ⟨p, 0, none⟩ (.slice (some ⟨gt', 0, none⟩) (T + m) ct')) = w2 at *
  clear d0 d1 c0 c1 f0 f1 hA1 hk1 hob1 hsrc h
  obtain ⟨c0, c1, f0, f1⟩ := R2.cells
  have hp2 : p < w2.heap.size := (Array.getElem?_eq_some_iff.1 R2.blk).1
  have hs2 := hF2.size
  have R2d := R2.keep ((Keeps.refl (fun _ => False) w2).drew) (fun h => h) (fun h => h) (fun h => h)
  have g0 : w2.drew.cell? ⟨p, 0, none⟩ = some (.slice (some ⟨gt', 0, none⟩) (T + m) ct') := c0
  have g1 : w2.drew.cell? ⟨p, 1, none⟩ = some (.slice (some ⟨ge, 0, none⟩) N ce) := c1
  have ko := ((Keeps.refl (fun _ => False) w2).drew).alloc (.cells #[Value.int .i64 ((T + m : Nat) : Int)] 3)
  have Ra := R2.keep ko (fun h => h) (fun h => h) (fun h => h)
  obtain ⟨a0, a1, fa0, fa1⟩ := Ra.cells
  have hso : Src (w2.drew.alloc (.cells #[Value.int .i64 ((T + m : Nat) : Int)] 3)) 1 (.slice (some ⟨w2.heap.size, 0, none⟩) 1 1) 1 [.int .i64 ((T + m : Nat) : Int)] := Src.one_new w2.drew _ _ rfl
  go_region_law ((refine step_app rfl (.tmp 17) (.tmp 23) 26 rfl 3 i3 (.int .i64 0) 1 8 Yba.underlying26 hi3 hz3 hs3 hb3 rfl (by omega) (.slice (some ⟨ge, 0, none⟩) N ce) N Z rfl Ra.ens (.slice (some ⟨w2.heap.size, 0, none⟩) 1 1) rfl 1 [.int .i64 ((T + m : Nat) : Int)] hso (by unfold maxLen; omega) (by omega) ?_; intro v3 w3 hA3 hn3; obtain ⟨ge', ce', rfl, hnc3, hcm3, hob3, hk3, hm3⟩ := hA3.shape (by omega); have e0 : w3.cell? ⟨p, 0, none⟩ = some (.slice (some ⟨gt', 0, none⟩) (T + m) ct') := hk3.cells R2.pe a0; have e0' := hk3.cells R2.pe a1; have e1 : w3.frozen? ⟨p, 1, none⟩ = false := (World.frozen?_of_block (hk3.block p (Nat.lt_of_lt_of_le hp2 ko.size) R2.pe)).trans fa1))
  all_goals
    have R4 := Ra.store1 hk3 hob3 hm3
    have hF4 : Keeps (fun b => b = p ∨ b = gt ∨ b = ge) w (w3.setCell ⟨p, 1, none⟩ (.slice (some ⟨ge', 0, none⟩) (N + 1) ce')) := (((hF2.mono (fun b _ h => by omega)).trans ko (fun _ _ h => h.elim)).trans hk3 (fun b _ h => by omega)).setCell (p := ⟨p, 1, none⟩) (fun _ => .inl rfl) _
    have hks := ko.size
    have hm4 : ge' = ge ∨ w.heap.size ≤ ge' := by
      rcases hm3 with h | h
      · exact .inl h
      · exact .inr (Nat.le_trans (Nat.le_trans hs2 hks) h)
    go_end0
    exact ⟨rfl, gt', ct', ge', ce', by rw [show ivals (zl ++ [T + m]) = Z ++ [.int .i64 ((T + m : Nat) : Int)] by rw [← HZ.out]; simp [ivals]]; exact R4, hF4, hm1', hm4⟩

/-- append: the key comes last. -/
theorem app_node {w : World} {p gt ct ge ce : Nat} {vk : Value} {ks : List (List Value)} {gs : List Value} (h : Node w p gt ct ge ce vk ks gs) (hfew : ks.length + 1 ≤ 10000)
    (x : Value) (m : Nat) (k : List Value) (hsrc : Src w 1 x m k) (hm0 : 0 < m) (hm1 : m ≤ 100) (hu : ∀ u ∈ k, ∃ y, u = Value.int .u8 y) :
    Calls Yba.prog 31 #[.pointer (some ⟨p, 0, none⟩), x] w fun r w' => r = .returned (.tuple #[]) ∧ ∃ gt' ct' ge' ce', Node w' p gt' ct' ge' ce' vk (ks ++ [k]) gs ∧
      Keeps (Foot p gt ge vk) w w' ∧ (∀ b, Foot p gt' ge' vk b → Foot p gt ge vk b ∨ w.heap.size ≤ b) := by
  refine (app_raw h.raw h.few h.tlen x m k hsrc hm0 hm1).mono ?_
  rintro r w' ⟨rfl, gt', ct', ge', ce', R, hk, hg1, hg2⟩
  have hkl : k.length = m := by have := hsrc.len; omega
  have hkid : ∀ g, vk.ownBlock = some g → ¬ (g = p ∨ g = gt ∨ g = ge) := by
    intro g hg hx
    rcases hx with rfl | rfl | rfl
    · exact h.kp hg
    · exact h.kt hg
    · exact h.ke hg
  refine ⟨rfl, gt', ct', ge', ce', ⟨?_, hk.own h.kid hkid, h.kp, ?_, ?_, ?_, ?_, by simp; omega, h.ptr⟩, hk.mono (fun b _ hb => ?_), fun b hb => ?_⟩
  · have hflat : (ks ++ [k]).flatten = ks.flatten ++ k := by simp
    have hl2 : (ks ++ [k]).length = ks.length + 1 := by simp
    have hends : endsF 0 (ks ++ [k]) = endsF 0 ks ++ [ks.flatten.length + m] := by rw [endsF_append]; simp only [endsF, Nat.zero_add, hkl]
    rw [hflat, hl2, hends, List.length_append, hkl]; exact R
  · intro e
    rcases hg1 with rfl | hx
    · exact h.kt e
    · have := h.kid.lt _ e; omega
  · intro e
    rcases hg2 with rfl | hx
    · exact h.ke e
    · have := h.kid.lt _ e; omega
  · intro k' hk'
    rcases List.mem_append.1 hk' with hk' | hk'
    · exact h.u8 k' hk'
    · simp at hk'; subst hk'; exact hu
  · intro k' hk'
    rcases List.mem_append.1 hk' with hk' | hk'
    · exact h.pos k' hk'
    · simp at hk'; subst hk'; omega
  · unfold Foot
    rcases hb with h | h | h
    · exact .inl h
    · exact .inr (.inl h)
    · exact .inr (.inr (.inl h))
  · unfold Foot at hb ⊢
    rcases hb with rfl | rfl | rfl | hb
    · exact .inl (.inl rfl)
    · rcases hg1 with rfl | hx
      · exact .inl (.inr (.inl rfl))
      · exact .inr hx
    · rcases hg2 with rfl | hx
      · exact .inl (.inr (.inr (.inl rfl)))
      · exact .inr hx
    · exact .inl (.inr (.inr (.inr hb)))

/-- Key i of a node as a source. -/
theorem Node.key_src {w : World} {p gt ct ge ce : Nat} {vk : Value} {ks : List (List Value)} {gs : List Value} (h : Node w p gt ct ge ce vk ks gs) (i : Nat) (hi : i < ks.length) (c : Nat) : Src w 1 (.slice (some ⟨gt, off ks i, none⟩) (off ks (i + 1) - off ks i) c) (off ks (i + 1) - off ks i) ks[i] := by
  have hsu := off_succ ks i hi
  have hle := off_le ks (i + 1)
  have e1 : off ks (i + 1) - off ks i = ks[i].length := by omega
  refine src_mid h.raw.txt (off ks i) _ c _ ks[i] (by omega) ?_ (fun u hu => ?_) (fun _ => rfl)
  · rw [e1, flat_key ks i hi]
  · obtain ⟨y, rfl⟩ := h.u8 ks[i] (by simp) u hu; rfl

/-- replace. -/
theorem rep_node {w : World} {p gt ct ge ce : Nat} {vk : Value} {ks : List (List Value)} {gs : List Value} (h : Node w p gt ct ge ce vk ks gs) (i : Nat) (hi : i < ks.length)
    (s : ByteArray) (hs0 : 0 < s.size) (hs1 : s.size ≤ 100) :
    Calls Yba.prog 27 #[.pointer (some ⟨p, 0, none⟩), .int .i64 i, .string s] w fun r w' => r = .returned (.tuple #[]) ∧ ∃ gt' ct' ge' ce', Node w' p gt' ct' ge' ce' vk (ks.take i ++ Lib.strCells s :: ks.drop (i + 1)) gs ∧
      Keeps (Foot p gt ge vk) w w' ∧ (∀ b, Foot p gt' ge' vk b → Foot p gt ge vk b ∨ w.heap.size ≤ b) := by
  have hfew := h.few
  go_enter Yba.func27, Yba.ntmps27
  go_wp2_with fail
  refine (del_node h i hi).mono ?_
  rintro r w1 ⟨rfl, ct1, ce1, h1, hk1⟩
  go_wp2_with fail
  have ko := (Keeps.refl (fun _ => False) w1).alloc (.cells #[Value.string s] 9)
  have h2 := h1.keep ko (fun _ _ h => h)
  refine (ins_node h2 i (by simp; omega) (by simp; omega) s hs0 hs1 w1.heap.size (by simp [World.cell?_alloc_at]) (fun hf => ?_)).mono ?_
  · have := h1.lt _ hf; omega
  rintro r w3 ⟨rfl, gt', ct', ge', ce', h3, hk3, hf3⟩
  go_wp2
  go_end0
  have hl : (ks.take i).length = i := by simp; omega
  rw [List.take_left' hl, List.drop_left' hl] at h3
  refine ⟨rfl, gt', ct', ge', ce', h3, (hk1.trans (ko.mono (T := fun _ => False) (fun _ _ h => h)) (fun _ _ h => h.elim)).trans hk3 (fun _ _ h => h), fun b hb => ?_⟩
  rcases hf3 b hb with h | h
  · exact .inl h
  · have := hk1.size; have := ko.size; exact .inr (by omega)
end Go.Proofs.Ybulkcday
