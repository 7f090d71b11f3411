import Derived.Test.YbulkcdayK
namespace Go.Proofs.Ybulkcday
open Go.RowKit

theorem src_own {w : World} {e : TypeId} {v : Value} {n : Nat} {xs : List Value} (h : w.ownsRow 0 e 1 v n xs) (h1 : ∀ u ∈ xs, u.oneCell' = true) : Src w 1 v n xs := by
  refine ⟨by simpa using h.1, h1, ?_⟩
  rcases h.2 with ⟨rfl, rfl⟩ | ⟨g, cap, cur, rfl, rest⟩
  · exact ⟨none, 0, rfl, fun _ => rfl, fun a ha => by cases ha⟩
  · exact ⟨some ⟨g, 0, none⟩, cap, rfl, (fun h => by cases h), fun a ha j u hj => by cases ha; exact h.cells (g := g) rfl j u hj⟩

theorem own_slice {w : World} {e : TypeId} {v : Value} {n : Nat} {xs : List Value} (h : w.ownsRow 0 e 1 v n xs) : ∃ a c, v = .slice a n c := by
  rcases h.2 with ⟨rfl, rfl⟩ | ⟨g, cap, cur, rfl, rest⟩
  · exact ⟨none, 0, rfl⟩
  · exact ⟨_, cap, rfl⟩
theorem ptr_one {gs : List Value} (h : ∀ u ∈ gs, ∃ a, u = Value.pointer a) : ∀ u ∈ gs, u.oneCell' = true := fun u hu => by
  obtain ⟨a, rfl⟩ := h u hu; rfl

theorem Upd.drewN {w : World} {A : K} (h : A.ok w) (n : Nat) : A.ok (w.drewN n) := K.keepF h ((Keeps.refl _ w).drewN n)

set_option maxHeartbeats 3200000 in
set_option maxRecDepth 100000 in
theorem merge_k {w : World} {P C R : K} (hP : P.ok w) (hC : C.ok w) (hR : R.ok w) (dPC : Dis P C) (_dPR : Dis P R) (dCR : Dis C R) (i : Nat) (hi : i < P.ks.length) (hCi : P.gs[i]? = some C.ptr) (hRi : P.gs[i + 1]? = some R.ptr)
    (hfew : C.ks.length + 1 + R.ks.length ≤ 1000) (hgs : C.gs.length + R.gs.length ≤ 10000) (hPg : P.gs.length ≤ 10000) :
    Calls Yba.prog 32 #[P.ptr, .int .i64 i] w fun r w' => r = .returned (.tuple #[]) ∧ ∃ P' C', P'.ok w' ∧ C'.ok w' ∧ Dis P' C' ∧ Keeps (fun b => P.foot b ∨ C.foot b) w w' ∧
      (∀ b, P'.foot b → P.foot b ∨ w.heap.size ≤ b) ∧ (∀ b, C'.foot b → C.foot b ∨ w.heap.size ≤ b) ∧ P'.p = P.p ∧ C'.p = C.p ∧
      P'.ks = P.ks.take i ++ P.ks.drop (i + 1) ∧ P'.gs = P.gs.take (i + 1) ++ P.gs.drop (i + 2) ∧ C'.ks = C.ks ++ P.ks[i] :: R.ks ∧ C'.gs = C.gs ++ R.gs ∧ (C.vk = .slice none 0 0 → R.gs = [] → C'.vk = .slice none 0 0) := by
  have hPf := hP.few
  have hil : i + 1 < P.gs.length := (List.getElem?_eq_some_iff.1 hRi).1
  obtain ⟨gk, ck, hvk, hnk, hck, hobk, hlk, hcellk⟩ := own_some hP.kid (by omega)
  obtain ⟨c1, c0, c2, f2⟩ := K.cells hP
  rw [hvk] at c2
  have d0 : w.cell? ⟨gk, i, none⟩ = some (.pointer (some ⟨C.p, 0, none⟩)) := (hcellk i (by omega)).trans hCi
  have d1 : w.cell? ⟨gk, i + 1, none⟩ = some (.pointer (some ⟨R.p, 0, none⟩)) := (hcellk (i + 1) (by omega)).trans hRi
  have b1 : (i : Int) < (P.gs.length : Int) := by omega
  have b2 : (i : Int) + 1 < (P.gs.length : Int) := by omega
  have b3 : (0 : Int) ≤ (i : Int) + 1 := by omega
  clear hcellk hCi hRi
  unfold K.ptr
  go_enter Yba.func32, Yba.ntmps32
  go_wp2
  go_quiet (fail)
  have k1 := (Keeps.refl (fun _ => False) w).drewN nq
  have hP1 := K.keepF hP k1
  have hC1 := K.keepF hC k1
  have hR1 := K.keepF hR k1
  generalize w.drewN nq = w1 at *
  go_wp2_with fail
  refine (key_k hP1 i hi).mono ?_
  rintro r w2' ⟨o, c, nq2, rfl, rfl, hsrc⟩
  have k2 := k1.drewN nq2
  have hP2 := K.keepF hP k2
  have hC2 := K.keepF hC k2
  have hR2 := K.keepF hR k2
  have hsrc := hsrc _ hP2
  have hkl := K.key_len hP2 i hi
  have hku := hP2.u8 P.ks[i] (by simp)
  generalize hk0 : P.ks[i] = key at *
  have hkk := Hid.mk' hk0
  clear hk0
  generalize w1.drewN nq2 = w2 at *
  clear c1 c0 c2 f2 d0 d1 hP1 hC1 hR1 k1
  go_wp2_with fail
  refine (app_k hC2 (by omega) _ _ _ hsrc (by omega) (by omega) hku).mono ?_
  rintro r w3 ⟨rfl, C3, u3, hC3k, hC3g, hC3v⟩
  obtain ⟨hP3, dPC3⟩ := u3.other hP2 dPC.symm
  obtain ⟨hR3, dCR3⟩ := u3.other hR2 dCR
  have u3' := Upd.pre k2 u3
  go_wp2_with fail
  refine (count_k hR3).mono ?_
  rintro r w4 ⟨rfl, rfl⟩
  go_wp2
  go_loopw [29, 6] (fun j _ wr => ∃ m : Nat, m ≤ R.ks.length ∧ j = .int .i64 m ∧ ∃ C1, Upd w wr C C1 ∧ C1.ks = C.ks ++ key :: R.ks.take m ∧ C1.gs = C.gs ∧ C1.vk = C.vk) (fun j _ _ => R.ks.length - (intOf j).toNat)
  case atStart => exact ⟨0, by omega, rfl, C3, u3', by rw [hC3k]; simp, hC3g, hC3v⟩
  case round =>
    obtain ⟨m, hm, rfl, C1, u1, hk1, hg1, hv1⟩ := hrel
    clear hP3 dPC3 hR3 dCR3 u3' u3 hC3k hC3g hC3v hP2 hC2 hR2 hsrc k2
    obtain ⟨hP4, dCP4⟩ := u1.other hP dPC.symm
    obtain ⟨hR4, dCR4⟩ := u1.other hR dCR
    have hpp := u1.p
    by_cases hlt : m < R.ks.length
    · have hcl : C1.ks.length = C.ks.length + 1 + m := by rw [hk1]; simp; omega
      go_wp2_with fail
      refine (key_k hR4 m hlt).mono ?_
      rintro r w2' ⟨o, c, nq2, rfl, rfl, hsrc⟩
      have k5 := (Keeps.refl (fun _ => False) wr).drewN nq2
      have hR5 := K.keepF hR4 k5
      have hC5 := K.keepF u1.ok k5
      have hsrc := hsrc _ hR5
      have hkl := K.key_len hR5 m hlt
      have hku := hR5.u8 R.ks[m] (by simp)
      generalize wr.drewN nq2 = w5 at *
      go_wp2_with fail
      rw [← hpp]
      refine (app_k hC5 (by omega) _ _ _ hsrc (by omega) (by omega) hku).mono ?_
      rintro r w6 ⟨rfl, C6, u6, hC6k, hC6g, hC6v⟩
      have u6' := u1.trans (Upd.pre k5 u6)
      go_wp2
      go_roundw
      case rel =>
        refine ⟨m + 1, by omega, by go_num, C6, u6', ?_, hC6g.trans hg1, hC6v.trans hv1⟩
        rw [hC6k, hk1, List.take_succ_eq_append_getElem hlt]; simp
      case measure => simp [intOf]; omega
    · obtain rfl : m = R.ks.length := by omega
      rw [List.take_length] at hk1
      go_upto_region 7 with fail
      obtain ⟨i0, hi0, hz0, hs0, hb0⟩ := info_parts Yba.info24
      have kd := (Keeps.refl (fun _ => False) wr).drew
      have hC7 := K.keepF u1.ok kd
      have hR7 := K.keepF hR4 kd
      obtain ⟨-, -, e0, f0⟩ := K.cells hC7
      obtain ⟨-, -, e1, -⟩ := K.cells hR7
      rw [hpp] at e0 f0
      rw [hv1] at e0
      have hpC : C.p < wr.drew.heap.size := hpp ▸ hC7.lt _ (.inl rfl)
      have hkC : C.vk.ownBlock ≠ some C.p := hC.kp
      have hkid7 : wr.drew.ownsRow 0 24 1 C.vk C.gs.length C.gs := by rw [← hv1, ← hg1]; exact hC7.kid
      go_cut [] from 38 to 49 (fun wc => ∃ C7, Upd w wc C C7 ∧ C7.ks = C.ks ++ key :: R.ks ∧ C7.gs = C.gs ++ R.gs ∧ (C.vk = .slice none 0 0 → R.gs = [] → C7.vk = .slice none 0 0))
      case first =>
        go_region_law ((refine step_app rfl (.tmp 42) (.tmp 46) 27 rfl 24 i0 (.pointer none) 1 8 Yba.underlying27 hi0 hz0 hs0 hb0 rfl (by omega) C.vk C.gs.length C.gs rfl hkid7 R.vk rfl R.gs.length R.gs (src_own hR7.kid (ptr_one hR7.ptr)) (by unfold maxLen; omega) (by omega) ?_; intro v8 w8 hA8 hn8; obtain ⟨ao8, cp8, rfl⟩ := own_slice hA8.own; have e8 := (hA8.keeps.cells (b := C.p) hkC e0); have f8 : w8.frozen? ⟨C.p, 2, none⟩ = false := (World.frozen?_of_block (hA8.keeps.block C.p hpC hkC)).trans f0))
        all_goals
          have u8 := store2 (v := .slice ao8 (C.gs.length + R.gs.length) cp8) (gs' := C.gs ++ R.gs) hC7 (by rw [hv1]; exact hA8.keeps) (by rw [List.length_append]; exact hA8.own) (by rw [hv1]; exact hA8.moved) (fun u hu => by rcases List.mem_append.1 hu with h | h; exact hC.ptr u h; exact hR.ptr u h)
          rw [hpp] at u8
          have u9 := u1.trans (Upd.pre kd u8)
          go_wp2
          go_meet
          case rel => exact ⟨_, u9, hk1, rfl, fun e1 e2 => hn8.2 ⟨e1, by rw [e2]; rfl⟩⟩
      case rest =>
        obtain ⟨C7, u7, hk7, hg7, hv7⟩ := hcut
        clear hP4 dCP4 hR4 dCR4 u1 hC7 hR7 e0 f0 e1 hkid7 hkC hpC kd hk1 hg1 hv1 hpp
        obtain ⟨hP4, dCP4⟩ := u7.other hP dPC.symm
        go_wp2_with fail
        refine (del_k hP4 i hi).mono ?_
        rintro r w8 ⟨rfl, P8, u8, hk8, hg8, hv8⟩
        obtain ⟨hC8, dPC8⟩ := u8.other u7.ok dCP4.symm
        obtain ⟨-, -, e0, f0⟩ := K.cells u8.ok
        rw [hv8, hvk, u8.p] at e0
        rw [u8.p] at f0
        go_wp2_with fail
        rw [show (i : Int) + 1 = ((i + 1 : Nat) : Int) from by omega, show (i : Int) + 2 = ((i + 2 : Nat) : Int) from by omega]
        have hkid8 : w8.ownsRow 0 24 1 (.slice (some ⟨gk, 0, none⟩) P.gs.length ck) P.gs.length P.gs := by rw [← hvk, ← hv8, ← hg8]; exact u8.ok.kid
        have hob8 : P8.vk.ownBlock = some gk := by rw [hv8, hvk]; rfl
        refine (del30_any gk P.gs.length ck (i + 1) (i + 2) P.gs w8 (ptr_one hP.ptr) hkid8 (by omega) (by omega) hck).mono ?_
        rintro r w9 ⟨rfl, ho9, hk9⟩
        have u9 := store2 (v := .slice (some ⟨gk, 0, none⟩) (i + 1 + (P.gs.length - (i + 2))) ck) (gs' := P.gs.take (i + 1) ++ P.gs.drop (i + 2)) u8.ok (hk9.mono (fun b _ hb => by rw [hob8, hb])) (by rw [show (P.gs.take (i + 1) ++ P.gs.drop (i + 2)).length = i + 1 + (P.gs.length - (i + 2)) by simp; omega]; exact ho9) (fun g hg => .inl (by rw [hob8]; exact hg)) (fun u hu => by rcases List.mem_append.1 hu with h | h; exact hP.ptr u (List.mem_of_mem_take h); exact hP.ptr u (List.mem_of_mem_drop h))
        have hpk9 : P8.p ≠ gk := fun e => u8.ok.kp (by rw [hob8, e])
        rw [u8.p] at u9 hpk9
        have hpl8 : P.p < w8.heap.size := u8.p ▸ u8.ok.lt _ (.inl rfl)
        have e9 := hk9.cells (b := P.p) hpk9 e0
        have f9 : w9.frozen? ⟨P.p, 2, none⟩ = false := (World.frozen?_of_block (hk9.block P.p hpl8 hpk9)).trans f0
        obtain ⟨hC9, dPC9⟩ := u9.other hC8 dPC8
        go_wp2
        go_end0
        have uu := u8.trans u9
        refine ⟨rfl, _, C7, uu.ok, hC9, dPC9, ?_, ?_, u7.grows, by simp, u7.p, hk8, rfl, by rw [hk7, hkk.out], hg7, hv7⟩
        · exact (u7.keeps.mono (fun _ _ h => .inr h)).trans uu.keeps (fun _ _ h => .inl h)
        · intro b hb
          rcases uu.grows b hb with e | e
          · exact .inl e
          · exact .inr (Nat.le_trans u7.keeps.size e)
end Go.Proofs.Ybulkcday
