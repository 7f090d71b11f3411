import Derived.Test.YbulkcdayFillL
namespace Go.Proofs.Ybulkcday
open Go.RowKit

set_option maxHeartbeats 3200000 in
set_option maxRecDepth 100000 in
theorem fillR {w : World} {P X Y : K} (T : Tri w w P X Y P X Y) (a l : Nat) (hX : P.gs[a]? = some X.ptr) (hY : P.gs[a + 1]? = some Y.ptr) (hPl : P.ks.length + 1 = P.gs.length) (hPg : P.gs.length ≤ 100)
    (hl : Y.ks.length = l + 1) (hl0 : 31 ≤ l) (hl1 : l ≤ 100) (hX1 : X.ks.length ≤ 31) (ha : a < P.ks.length) (sY : ∀ k ∈ Y.ks, IsStr k) (inn : Bool) (fX : Lf inn X) (fY : Lf inn Y)
    (hZ : 0 < a → ∃ Z : K, Z.ok w ∧ P.gs[a - 1]? = some Z.ptr ∧ Z.ks.length ≤ 31) :
    Calls Yba.prog 14 #[P.ptr, .int .i64 a] w fun r w' => r = .returned (.int .i64 a) ∧ ∃ P' X' Y' k', Tri w w' P X Y P' X' Y' ∧ P'.gs = P.gs ∧ P'.ks = P.ks.set a k' ∧
      X'.ks ++ k' :: Y'.ks = X.ks ++ P.ks[a] :: Y.ks ∧ X'.ks.length = X.ks.length + 1 ∧ X'.gs ++ Y'.gs = X.gs ++ Y.gs ∧ Lf inn X' ∧ Lf inn Y' := by
  have h0y : 0 < Y.ks.length := by omega
  obtain ⟨gk, ck, hvk, hnk, hck, hobk, hlk, hcellk⟩ := own_some T.a.kid (by omega)
  obtain ⟨-, -, c2, f2⟩ := K.cells T.a
  rw [hvk] at c2
  have d0 : w.cell? ⟨gk, a, none⟩ = some (.pointer (some ⟨X.p, 0, none⟩)) := (hcellk a (by omega)).trans hX
  have d1 : w.cell? ⟨gk, a + 1, none⟩ = some (.pointer (some ⟨Y.p, 0, none⟩)) := (hcellk (a + 1) (by omega)).trans hY
  have hZ' : 0 < a → ∃ Z : K, Z.ok w ∧ w.cell? ⟨gk, a - 1, none⟩ = some (.pointer (some ⟨Z.p, 0, none⟩)) ∧ Z.ks.length ≤ 31 := fun h => by
    obtain ⟨Z, h1, h2, h3⟩ := hZ h
    exact ⟨Z, h1, (hcellk (a - 1) (by omega)).trans h2, h3⟩
  have b0 : (a : Int) < (P.gs.length : Int) := by omega
  have b1 : (a : Int) + 1 < (P.gs.length : Int) := by omega
  have b2 : decide ((31 : Int) < (X.ks.length : Int)) = false := by simp; omega
  have b4 : (0 : Int) ≤ (a : Int) + 1 := by omega
  have b6 : (0 : Int) ≤ (a : Int) := by omega
  have b3 : decide ((31 : Int) < (l : Int) + 1) = true := by simp; omega
  have b5 : decide ((a : Int) + 1 < (P.gs.length : Int)) = true := by simp; omega
  clear hcellk hX hY hZ
  unfold K.ptr
  go_enter Yba.func14, Yba.ntmps14
  go_wp2_with fail
  refine (count_q T.b X.p rfl).mono ?_
  rintro r w1 ⟨rfl, rfl⟩
  go_upto_region 4 with fail
  go_cut [33] from 20 to 33 (fun s wc => s = .bool false ∧ w = wc)
  case first =>
    clear b1 b3 b4 b5 d1
    by_cases ha0 : a = 0
    · subst ha0
      go_wp2_with fail
      go_meet
      case rel => exact ⟨rfl, rfl⟩
    · obtain ⟨Z, hZ1, hZ2, hZ3⟩ := hZ' (by omega)
      have z1 : decide ((0 : Int) < (a : Int)) = true := by simp; omega
      have z2 : (0 : Int) ≤ (a : Int) - 1 := by omega
      have z3 : (a : Int) - 1 < (P.gs.length : Int) := by omega
      have z4 : ((a : Int) - 1).toNat = a - 1 := by omega
      have z5 : decide ((31 : Int) < (Z.ks.length : Int)) = false := by simp; omega
      have hZf := hZ1.few
      go_wp2_with fail
      refine (count_q hZ1 Z.p rfl).mono ?_
      rintro r w1 ⟨rfl, rfl⟩
      go_wp2_with fail
      go_meet
      case rel => exact ⟨rfl, rfl⟩
  case rest =>
    obtain ⟨rfl, rfl⟩ := hcut
    clear hZ'
    go_wp2_with fail
    refine (count_q T.c Y.p rfl).mono ?_
    rintro r w1 ⟨rfl, rfl⟩
    rw [hl]
    go_wp2_with fail
    refine (key_q T.a P.p rfl a ha).mono ?_
    rintro r w1 ⟨o1, cc1, nq1, rfl, rfl, hs1, hk0, hk1⟩
    have k1 := (Keeps.refl (fun _ => False) w).drewN nq1
    have T1 := T.quiet k1
    have hsrc := hs1 _ T1.a
    have hku := T1.a.u8 P.ks[a] (by simp)
    clear hs1
    generalize hkP : P.ks[a] = kP at *
    have HkP := Hid.mk' hkP
    clear hkP
    generalize w.drewN nq1 = w1 at *
    clear c2 d0 d1 f2
    go_wp2_with fail
    refine (app_q T1.b X.p rfl (by omega) _ _ _ hsrc hk0 hk1 hku).mono ?_
    rintro r w3 ⟨rfl, X3, u3, hX3k, hX3g, hX3v⟩
    have T3 := T1.u2 u3
    clear T1 u3 hsrc k1
    go_wp2_with fail
    rw [show (Value.int IntKind.i64 0) = .int .i64 ((0 : Nat) : Int) from rfl]
    refine (key_q T3.c Y.p rfl 0 h0y).mono ?_
    rintro r w4' ⟨o2, cc2, nq2, rfl, rfl, hs2, hk2, hk3⟩
    have T4 := T3.quiet ((Keeps.refl (fun _ => False) w3).drewN nq2)
    have sL := sY Y.ks[0] (by simp)
    have hcv2 := conv_src (hs2 _ T4.c) hk2 sL
    have hus2 := sL.size
    generalize hkX : Y.ks[0] = kX at *
    have HkX := Hid.mk' hkX
    clear hkX
    generalize w3.drewN nq2 = w4 at *
    clear T3
    go_wp2_with fail
    refine (rep_q T4.a P.p rfl a ha (unS kX) (by omega) (by omega)).mono ?_
    rintro r w5 ⟨rfl, P5, u5, hP5k, hP5g, hP5v⟩
    rw [sL] at hP5k
    have T5 := T4.u1 u5
    clear T4 u5 hs2 hcv2
    go_wp2_with fail
    rw [show (Value.int IntKind.i64 0) = .int .i64 ((0 : Nat) : Int) from rfl]
    refine (del_q T5.c Y.p rfl 0 h0y).mono ?_
    rintro r w6 ⟨rfl, Y6, u6, hY6k, hY6g, hY6v⟩
    rw [List.take_zero, List.nil_append] at hY6k
    have T6 := T5.u3 u6
    clear T5 u6
    obtain ⟨-, -, e0, f0⟩ := K.cells T6.b
    rw [T6.pb, hX3v] at e0
    rw [T6.pb] at f0
    have hset : P.ks.take a ++ kX :: P.ks.drop (a + 1) = P.ks.set a kX := by rw [List.set_eq_take_append_cons_drop, if_pos ha]
    rw [hset] at hP5k
    have hcat : X3.ks ++ kX :: Y6.ks = X.ks ++ kP :: Y.ks := by
      rw [hX3k, hY6k, ← HkX.out, List.append_assoc, List.singleton_append]
      have := List.drop_eq_getElem_cons h0y
      rw [List.drop_zero] at this
      rw [← this]
    have hX3l : X3.ks.length = X.ks.length + 1 := by rw [hX3k]; simp
    have hY6l : Y6.ks.length = l := by rw [hY6k]; simp; omega
    cases inn with
    | false =>
      obtain ⟨hYv, hYg⟩ := fY.1 rfl
      obtain ⟨hXv, hXg⟩ := fX.1 rfl
      rw [hXv] at e0
      go_wp2
      go_ret
      exact ⟨rfl, P5, X3, Y6, kX, T6, hP5g, hP5k, by rw [HkP.out]; exact hcat, hX3l, by rw [hX3g, hY6g], ⟨fun _ => ⟨hX3v.trans hXv, hX3g.trans hXg⟩, fun h => by cases h⟩, ⟨fun _ => ⟨hY6v.trans hYv, hY6g.trans hYg⟩, fun h => by cases h⟩⟩
    | true =>
      have hYg' := fY.2 rfl
      have hXg' := fX.2 rfl
      have hXn : 0 < X.gs.length := by omega
      have hXm : X.gs.length ≤ 10000 := by omega
      have hYn : Y.gs.length = l + 2 := by omega
      have HYg := Hid.mk' hYg'
      have HXg := Hid.mk' hXg'
      clear hYg' hXg'
      obtain ⟨gx, cx, hvx, hnx, hcx, hobx, hlx', hcelx⟩ := own_some T6.b.kid (by rw [hX3g]; omega)
      obtain ⟨gy, cy, hvy, hny, hcy, hoby, hly, hcely⟩ := own_some T6.c.kid (by rw [hY6g]; omega)
      obtain ⟨-, -, y0, yf0⟩ := K.cells T6.c
      rw [T6.pc, hvy, hY6g] at y0
      rw [T6.pc] at yf0
      rw [← hX3v, hvx, hX3g] at e0
      rw [hX3g] at hnx
      rw [hY6g] at hny
      obtain ⟨ag, hag⟩ := ptr_at T.c.ptr 0 (by omega)
      have HAg := Hid.mk' hag
      have y1 : w6.cell? ⟨gy, 0, none⟩ = some (.pointer ag) := by rw [hcely 0 (by rw [hY6g]; omega), hY6g, hag]
      clear hag
      have x2 : (0 : Int) < (Y.gs.length : Int) := by omega
      have x2' : 0 < Y.gs.length := by omega
      have HYn := Hid.mk' hYn
      clear hYn hcelx hcely
      obtain ⟨i0, hi0, hz0, hs0, hb0⟩ := info_parts Yba.info24
      have ko := ((Keeps.refl (fun _ => False) w6).alloc (.cells #[Value.pointer ag] 24)).drew
      have T7 := T6.quiet ko
      have e7 : (w6.alloc (.cells #[Value.pointer ag] 24)).drew.cell? ⟨X.p, 2, none⟩ = some (.slice (some ⟨gx, 0, none⟩) X.gs.length cx) := ko.cells (fun h => h) e0
      have f7 : (w6.alloc (.cells #[Value.pointer ag] 24)).drew.frozen? ⟨X.p, 2, none⟩ = false := (World.frozen?_of_block (ko.block X.p (lt_of_cell e0) (fun h => h))).trans f0
      have y7 := ko.cells (fun h => h) y0
      have y8 := ko.cells (fun h => h) y1
      have hxk : (w6.alloc (.cells #[Value.pointer ag] 24)).drew.ownsRow 0 24 1 (.slice (some ⟨gx, 0, none⟩) X.gs.length cx) X.gs.length X.gs := by
        have := T7.b.kid; rw [hvx, hX3g] at this; exact this
      have hpx : X.p ≠ gx := fun e => T6.b.kp (by rw [hobx, T6.pb, e])
      have hpl7 : X.p < (w6.alloc (.cells #[Value.pointer ag] 24)).drew.heap.size := Nat.lt_of_lt_of_le (lt_of_cell e0) ko.size
      have hso : Src ((w6.alloc (.cells #[Value.pointer ag] 24)).drew) 1 (.slice (some ⟨w6.heap.size, 0, none⟩) 1 1) 1 [.pointer ag] := Src.one_new w6.drew _ _ rfl
      go_upto_region 20 with fail
      go_cut [] from 145 to 159 (fun wc => ∃ X8, Tri w wc P X Y P5 X8 Y6 ∧ X8.ks = X3.ks ∧ X8.gs = X.gs ++ [.pointer ag])
      case first =>
        go_region_law ((refine step_app rfl (.tmp 149) (.tmp 156) 27 rfl 24 i0 (.pointer none) 1 8 Yba.underlying27 hi0 hz0 hs0 hb0 rfl (by omega) (.slice (some ⟨gx, 0, none⟩) X.gs.length cx) X.gs.length X.gs rfl hxk (.slice (some ⟨w6.heap.size, 0, none⟩) 1 1) rfl 1 [.pointer ag] hso (by unfold maxLen; omega) (by omega) ?_; intro v8 w8 hA8 hn8; obtain ⟨gx', cx', rfl, hnc8, hcm8, ho8, hk8, hm8⟩ := hA8.shape (by omega); have e8 := hk8.cells hpx e7; have f8 : w8.frozen? ⟨X.p, 2, none⟩ = false := (World.frozen?_of_block (hk8.block X.p hpl7 hpx)).trans f7))
        all_goals
          have u8 := store2 (v := .slice (some ⟨gx', 0, none⟩) (X.gs.length + 1) cx') (gs' := X.gs ++ [.pointer ag]) T7.b (hk8.mono (fun b _ hb => by rw [hobx, hb])) (by rw [List.length_append]; exact ho8) (fun g hg => by simp [Value.ownBlock] at hg; subst hg; rcases hm8 with h | h; exact .inl (by rw [hobx, h]); exact .inr h) (fun u hu => by rcases List.mem_append.1 hu with h | h; exact T.b.ptr u h; exact ⟨ag, by simpa using h⟩)
          have T8 := T7.u2 u8
          rw [T7.pb] at T8
          go_wp2
          go_meet
          case rel => exact ⟨_, T8, rfl, rfl⟩
      case rest =>
        obtain ⟨X8, T8, hX8k, hX8g⟩ := hcut
        clear T7 T6 T e0 f0 y0 yf0 y1 e7 f7 y7 y8 hxk hpx hpl7 ko hso
        obtain ⟨-, -, x0, xf0⟩ := K.cells T8.c
        rw [T8.pc, hvy, hY6g] at x0
        rw [T8.pc] at xf0
        have hYn : Y.gs.length = l + 2 := HYn.out
        have hyk : wc.ownsRow 0 24 1 (.slice (some ⟨gy, 0, none⟩) Y.gs.length cy) Y.gs.length Y.gs := by
          have := T8.c.kid; rw [hvy, hY6g] at this; exact this
        have hYp : ∀ u ∈ Y.gs, ∃ a, u = Value.pointer a := fun u hu => T8.c.ptr u (by rw [hY6g]; exact hu)
        have hpy : Y.p ≠ gy := fun e => T8.c.kp (by rw [hoby, T8.pc, e])
        rw [hYn] at x0 hyk
        go_wp2_with fail
        rw [show (Value.int IntKind.i64 0) = .int .i64 ((0 : Nat) : Int) from rfl, show (Value.int IntKind.i64 1) = .int .i64 ((1 : Nat) : Int) from rfl]
        refine (del30_any gy (l + 2) cy 0 1 Y.gs wc (ptr_one hYp) hyk (by omega) (by omega) hcy).mono ?_
        rintro r w9 ⟨rfl, ho9, hk9⟩
        rw [List.take_zero, List.nil_append, show 0 + (l + 2 - 1) = l + 1 by omega] at ho9
        have u9 := store2 (v := .slice (some ⟨gy, 0, none⟩) (l + 1) cy) (gs' := Y.gs.drop 1) T8.c (hk9.mono (fun b _ hb => by rw [hoby, hb])) (by rw [show (Y.gs.drop 1).length = l + 1 by simp; omega]; exact ho9) (fun g hg => .inl (by rw [hoby]; exact hg)) (fun u hu => hYp u (List.mem_of_mem_drop hu))
        have T9 := T8.u3 u9
        rw [T8.pc] at T9
        have e9 := hk9.cells hpy x0
        have f9 : w9.frozen? ⟨Y.p, 2, none⟩ = false := (World.frozen?_of_block (hk9.block Y.p (lt_of_cell x0) hpy)).trans xf0
        rw [show 0 + (l + 2 - 1) = l + 1 by omega]
        go_wp2
        go_ret
        refine ⟨rfl, P5, X8, _, kX, T9, hP5g, hP5k, by rw [HkP.out, hX8k]; exact hcat, by rw [hX8k]; exact hX3l, ?_, ⟨(fun h => by cases h), fun _ => ?_⟩, ⟨(fun h => by cases h), fun _ => ?_⟩⟩
        · show X8.gs ++ Y.gs.drop 1 = X.gs ++ Y.gs
          have hlt : 0 < Y.gs.length := by omega
          have e1 : Y.gs[0] = .pointer ag := by have := HAg.out; rw [List.getElem?_eq_getElem hlt] at this; simpa using this
          have := List.drop_eq_getElem_cons hlt
          rw [List.drop_zero, e1] at this
          rw [hX8g, List.append_assoc, List.singleton_append, ← this]
        · rw [hX8g, hX8k, hX3l]; have := HXg.out; simp; omega
        · show (Y.gs.drop 1).length = Y6.ks.length + 1
          rw [hY6l]; simp; omega
end Go.Proofs.Ybulkcday
