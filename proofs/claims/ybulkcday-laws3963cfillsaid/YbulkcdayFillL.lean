import Derived.Test.YbulkcdayTri
import Derived.Deep.RegionWith
namespace Go.Proofs.Ybulkcday
open Go.RowKit

/-- A leaf; or with one child more than keys. -/
def Lf (inn : Bool) (k : K) : Prop := (inn = false → k.vk = .slice none 0 0 ∧ k.gs = []) ∧ (inn = true → k.gs.length = k.ks.length + 1)

theorem ptr_at {gs : List Value} (h : ∀ u ∈ gs, ∃ a, u = Value.pointer a) (i : Nat) (hi : i < gs.length) : ∃ a, gs[i]? = some (.pointer a) := by
  obtain ⟨a, ha⟩ := h gs[i] (by simp)
  exact ⟨a, by rw [List.getElem?_eq_getElem hi, ha]⟩

set_option maxHeartbeats 3200000 in
set_option maxRecDepth 100000 in
theorem fillL {w : World} {P X Y : K} (T : Tri w w P X Y P X Y) (a l : Nat) (hX : P.gs[a]? = some X.ptr) (hY : P.gs[a + 1]? = some Y.ptr) (hPl : P.ks.length + 1 = P.gs.length) (hPg : P.gs.length ≤ 100)
    (hl : X.ks.length = l + 1) (hl0 : 31 ≤ l) (hl1 : l ≤ 100) (hY1 : Y.ks.length ≤ 31) (ha : a < P.ks.length) (sP : IsStr P.ks[a]) (sX : ∀ k ∈ X.ks, IsStr k) (inn : Bool) (fX : Lf inn X) (fY : Lf inn Y) :
    Calls Yba.prog 14 #[P.ptr, .int .i64 ((a + 1 : Nat) : Int)] w fun r w' => r = .returned (.int .i64 ((a + 1 : Nat) : Int)) ∧ ∃ P' X' Y' k', Tri w w' P X Y P' X' Y' ∧ P'.gs = P.gs ∧ P'.ks = P.ks.set a k' ∧
      X'.ks ++ k' :: Y'.ks = X.ks ++ P.ks[a] :: Y.ks ∧ X'.ks.length = l ∧ X'.gs ++ Y'.gs = X.gs ++ Y.gs ∧ Lf inn X' ∧ Lf inn Y' := by
  have hlx : l < X.ks.length := by omega
  obtain ⟨gk, ck, hvk, hnk, hck, hobk, hlk, hcellk⟩ := own_some T.a.kid (by omega)
  obtain ⟨-, -, c2, f2⟩ := K.cells T.a
  rw [hvk] at c2
  have d0 : w.cell? ⟨gk, a, none⟩ = some (.pointer (some ⟨X.p, 0, none⟩)) := (hcellk a (by omega)).trans hX
  have d1 : w.cell? ⟨gk, a + 1, none⟩ = some (.pointer (some ⟨Y.p, 0, none⟩)) := (hcellk (a + 1) (by omega)).trans hY
  have b0 : (a : Int) < (P.gs.length : Int) := by omega
  have b1 : (a : Int) + 1 < (P.gs.length : Int) := by omega
  have b2 : decide ((31 : Int) < (Y.ks.length : Int)) = false := by simp; omega
  have b4 : (0 : Int) ≤ (a : Int) + 1 := by omega
  have b5 : decide ((0 : Int) < (a : Int) + 1) = true := by rw [decide_eq_true_iff]; omega
  have b6 : (0 : Int) ≤ (a : Int) := by omega
  have b3 : decide ((31 : Int) < (l : Int) + 1) = true := by simp; omega
  clear hcellk hX hY
  unfold K.ptr
  go_enter Yba.func14, Yba.ntmps14
  go_wp2_with fail
  refine (count_q T.c Y.p rfl).mono ?_
  rintro r w1 ⟨rfl, rfl⟩
  go_wp2_with fail
  refine (count_q T.b X.p rfl).mono ?_
  rintro r w1 ⟨rfl, rfl⟩
  rw [hl]
  go_wp2_with fail
  refine (count_q T.b X.p rfl).mono ?_
  rintro r w1 ⟨rfl, rfl⟩
  rw [hl]
  go_wp2_with fail
  refine (key_q T.a P.p rfl a ha).mono ?_
  rintro r w1 ⟨o1, cc1, nq1, rfl, rfl, hs1, hk0, hk1⟩
  have k1 := (Keeps.refl (fun _ => False) w).drewN nq1
  have T1 := T.quiet k1
  have hcv1 := conv_src (hs1 _ T1.a) hk0 sP
  have hus := sP.size
  generalize hkP : P.ks[a] = kP at *
  have HkP := Hid.mk' hkP
  clear hkP
  generalize w.drewN nq1 = w1 at *
  clear c2 d0 d1 f2
  go_wp2_with fail
  have T2 := T1.quiet ((Keeps.refl (fun _ => False) w1).alloc (.cells #[Value.string (unS kP)] 9))
  have hlt1 : ¬ Y.foot w1.heap.size := fun hf => by have := T1.c.lt _ hf; omega
  rw [show (Value.int IntKind.i64 0) = .int .i64 ((0 : Nat) : Int) from rfl]
  refine (ins_q T2.c Y.p rfl 0 (by omega) (by omega) (unS kP) (by omega) (by omega) w1.heap.size (by simp [World.cell?_alloc_at]) hlt1).mono ?_
  rintro r w3 ⟨rfl, Y3, u3, hY3k, hY3g, hY3v⟩
  rw [List.take_zero, List.nil_append, List.drop_zero, sP] at hY3k
  have T3 := T2.u3 u3
  clear T2 T1 u3 hs1 hcv1 k1 hlt1
  go_wp2_with fail
  refine (key_q T3.b X.p rfl l hlx).mono ?_
  rintro r w4' ⟨o2, cc2, nq2, rfl, rfl, hs2, hk2, hk3⟩
  have T4 := T3.quiet ((Keeps.refl (fun _ => False) w3).drewN nq2)
  have sL := sX X.ks[l] (by simp)
  have hcv2 := conv_src (hs2 _ T4.b) hk2 sL
  have hus2 := sL.size
  generalize hkX : X.ks[l] = kX at *
  have HkX := Hid.mk' hkX
  clear hkX
  generalize w3.drewN nq2 = w4 at *
  clear T3
  go_wp2_with fail
  refine (rep_q T4.a P.p rfl a ha (unS kX) (by omega) (by omega)).mono ?_
  rintro r w5 ⟨rfl, P5, u5, hP5k, hP5g, hP5v⟩
  rw [sL] at hP5k
  have T5 := T4.u1 u5
  clear T4 u5 hs2 hcv2
  go_wp2_with fail
  refine (del_q T5.b X.p rfl l hlx).mono ?_
  rintro r w6 ⟨rfl, X6, u6, hX6k, hX6g, hX6v⟩
  have T6 := T5.u2 u6
  clear T5 u6
  obtain ⟨-, -, e0, f0⟩ := K.cells T6.c
  rw [T6.pc, hY3v] at e0
  rw [T6.pc] at f0
  have hset : P.ks.take a ++ kX :: P.ks.drop (a + 1) = P.ks.set a kX := by rw [List.set_eq_take_append_cons_drop, if_pos ha]
  have hX6 : X6.ks = X.ks.take l := by rw [hX6k, List.drop_of_length_le (by omega), List.append_nil]
  have hcat : X6.ks ++ kX :: Y3.ks = X.ks ++ kP :: Y.ks := by
    rw [hX6, hY3k, ← HkX.out]
    rw [← List.singleton_append, ← List.append_assoc, ← List.take_succ_eq_append_getElem hlx, List.take_of_length_le (by omega)]
  have hX6l : X6.ks.length = l := by rw [hX6]; simp; omega
  rw [hset] at hP5k
  cases inn with
  | false =>
    obtain ⟨hYv, hYg⟩ := fY.1 rfl
    obtain ⟨hXv, hXg⟩ := fX.1 rfl
    rw [hYv] at e0
    go_wp2
    go_ret
    exact ⟨rfl, P5, X6, Y3, kX, T6, hP5g, hP5k, by rw [HkP.out]; exact hcat, hX6l, by rw [hX6g, hY3g], ⟨fun _ => ⟨hX6v.trans hXv, hX6g.trans hXg⟩, fun h => by cases h⟩, ⟨fun _ => ⟨hY3v.trans hYv, hY3g.trans hYg⟩, fun h => by cases h⟩⟩
  | true =>
    have hYg' := fY.2 rfl
    have hXg' := fX.2 rfl
    have hYn : 0 < Y.gs.length := by omega
    have hYm : Y.gs.length ≤ 10000 := by omega
    have hXn : X.gs.length = l + 2 := by omega
    have HYg := Hid.mk' hYg'
    have HXg := Hid.mk' hXg'
    clear hYg' hXg'
    obtain ⟨gy, cy, hvy, hny, hcy, hoby, hly, hcely⟩ := own_some T6.c.kid (by rw [hY3g]; omega)
    obtain ⟨gx, cx, hvx, hnx, hcx, hobx, hlx', hcelx⟩ := own_some T6.b.kid (by rw [hX6g]; omega)
    obtain ⟨-, -, x0, xf0⟩ := K.cells T6.b
    rw [T6.pb, hvx, hX6g] at x0
    rw [T6.pb] at xf0
    rw [← hY3v, hvy, hY3g] at e0
    rw [hY3g] at hny
    rw [hX6g] at hnx
    obtain ⟨ag, hag⟩ := ptr_at T.b.ptr (l + 1) (by omega)
    have HAg := Hid.mk' hag
    have x1 : w6.cell? ⟨gx, l + 1, none⟩ = some (.pointer ag) := by rw [hcelx (l + 1) (by rw [hX6g]; omega), hX6g, hag]
    clear hag
    have x2 : (l : Int) + 1 < (X.gs.length : Int) := by omega
    have HXn := Hid.mk' hXn
    clear hXn
    have x3 : (0 : Int) ≤ (l : Int) + 1 := by omega
    have x4 : IntKind.i64.wrap ((l : Int) + 1) = (l : Int) + 1 := by rw [IntKind.wrap_i64]; omega
    have x5 : ((l : Int) + 1).toNat = l + 1 := by omega
    clear hcelx hcely
    have ko := ((Keeps.refl (fun _ => False) w6).alloc (.cells #[Value.pointer ag] 24)).drew
    have T7 := T6.quiet ko
    have e7 : (w6.alloc (.cells #[Value.pointer ag] 24)).drew.cell? ⟨Y.p, 2, none⟩ = some (.slice (some ⟨gy, 0, none⟩) Y.gs.length cy) := ko.cells (fun h => h) e0
    have f7 : (w6.alloc (.cells #[Value.pointer ag] 24)).drew.frozen? ⟨Y.p, 2, none⟩ = false := (World.frozen?_of_block (ko.block Y.p (lt_of_cell e0) (fun h => h))).trans f0
    have x7 := ko.cells (fun h => h) x0
    have x8 := ko.cells (fun h => h) x1
    have hyk : (w6.alloc (.cells #[Value.pointer ag] 24)).drew.ownsRow 0 24 1 (.slice (some ⟨gy, 0, none⟩) Y.gs.length cy) Y.gs.length Y.gs := by
      have := T7.c.kid; rw [hvy, hY3g] at this; exact this
    have hpy : Y.p ≠ gy := fun e => T6.c.kp (by rw [hoby, T6.pc, e])
    have hpl7 : Y.p < (w6.alloc (.cells #[Value.pointer ag] 24)).drew.heap.size := Nat.lt_of_lt_of_le (lt_of_cell e0) ko.size
    go_upto_region 11 with fail
    go_cut [] from 69 to 85 (fun wc => ∃ Y8, Tri w wc P X Y P5 X6 Y8 ∧ Y8.ks = kP :: Y.ks ∧ Y8.gs = .pointer ag :: Y.gs)
    case first =>
      go_region_with (go_at_call 29; refine (insk_any gy Y.gs.length cy Y.gs (w6.alloc (.cells #[Value.pointer ag] 24)).drew (ptr_one T.c.ptr) hyk hYn hYm w6.heap.size (.pointer ag) rfl (heap_alloc_new w6 _) (by omega)).mono ?_; rintro r w8 ⟨gy', cy', rfl, ho8, hk8, hm8⟩; have e8 := hk8.cells hpy e7; have f8 : w8.frozen? ⟨Y.p, 2, none⟩ = false := (World.frozen?_of_block (hk8.block Y.p hpl7 hpy)).trans f7)
      all_goals
        have u8 := store2 (v := .slice (some ⟨gy', 0, none⟩) (Y.gs.length + 1) cy') (gs' := .pointer ag :: Y.gs) T7.c (hk8.mono (fun b _ hb => by rw [hoby, hb])) (by rw [List.length_cons]; exact ho8) (fun g hg => by simp [Value.ownBlock] at hg; subst hg; rcases hm8 with h | h; exact .inl (by rw [hoby, h]); exact .inr h) (fun u hu => by rcases List.mem_cons.1 hu with h | h; exact ⟨_, h⟩; exact T.c.ptr u h)
        have T8 := T7.u3 u8
        rw [T7.pc] at T8
        go_wp2
        go_meet
        case rel => exact ⟨_, T8, hY3k, rfl⟩
    case rest =>
      obtain ⟨Y8, T8, hY8k, hY8g⟩ := hcut
      clear T7 T6 T e0 f0 x0 xf0 x1 e7 f7 x7 x8 hyk hpy hpl7 ko
      obtain ⟨-, -, x0, xf0⟩ := K.cells T8.b
      rw [T8.pb, hvx, hX6g] at x0
      rw [T8.pb] at xf0
      have hXn : X.gs.length = l + 2 := HXn.out
      have hxk : wc.ownsRow 0 24 1 (.slice (some ⟨gx, 0, none⟩) X.gs.length cx) X.gs.length X.gs := by
        have := T8.b.kid; rw [hvx, hX6g] at this; exact this
      have hXp : ∀ u ∈ X.gs, ∃ a, u = Value.pointer a := fun u hu => T8.b.ptr u (by rw [hX6g]; exact hu)
      have hpx : X.p ≠ gx := fun e => T8.b.kp (by rw [hobx, T8.pb, e])
      rw [hXn] at x0 hxk
      go_wp2_with fail
      rw [show (l : Int) + 1 = ((l + 1 : Nat) : Int) from by omega, show (l : Int) + 2 = ((l + 2 : Nat) : Int) from by omega]
      refine (del30_any gx (l + 2) cx (l + 1) (l + 2) X.gs wc (ptr_one hXp) hxk (by omega) (by omega) hcx).mono ?_
      rintro r w9 ⟨rfl, ho9, hk9⟩
      have hdr : X.gs.drop (l + 2) = [] := List.drop_of_length_le (by omega)
      rw [hdr, List.append_nil, show l + 1 + (l + 2 - (l + 2)) = l + 1 by omega] at ho9
      have u9 := store2 (v := .slice (some ⟨gx, 0, none⟩) (l + 1) cx) (gs' := X.gs.take (l + 1)) T8.b (hk9.mono (fun b _ hb => by rw [hobx, hb])) (by rw [show (X.gs.take (l + 1)).length = l + 1 by simp; omega]; exact ho9) (fun g hg => .inl (by rw [hobx]; exact hg)) (fun u hu => hXp u (List.mem_of_mem_take hu))
      have T9 := T8.u2 u9
      rw [T8.pb] at T9
      have e9 := hk9.cells hpx x0
      have f9 : w9.frozen? ⟨X.p, 2, none⟩ = false := (World.frozen?_of_block (hk9.block X.p (lt_of_cell x0) hpx)).trans xf0
      go_wp2
      go_ret
      refine ⟨rfl, P5, _, Y8, kX, T9, hP5g, hP5k, by rw [HkP.out]; rw [hY3k] at hcat; rw [hY8k]; exact hcat, hX6l, ?_, ⟨(fun h => by cases h), fun _ => ?_⟩, ⟨(fun h => by cases h), fun _ => ?_⟩⟩
      · show X.gs.take (l + 1) ++ Y8.gs = X.gs ++ Y.gs
        have hlt : l + 1 < X.gs.length := by omega
        have e1 : X.gs[l + 1] = .pointer ag := by have := HAg.out; rw [List.getElem?_eq_getElem hlt] at this; simpa using this
        rw [hY8g, ← e1, ← List.singleton_append, ← List.append_assoc, ← List.take_succ_eq_append_getElem hlt, List.take_of_length_le (by omega)]
      · show (X.gs.take (l + 1)).length = X6.ks.length + 1
        rw [hX6l]; simp; omega
      · rw [hY8g, hY8k]; have := HYg.out; simp; omega
end Go.Proofs.Ybulkcday
