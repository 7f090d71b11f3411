import Derived.Test.YbulkcdayTri
import Derived.Test.YbulkcdayFillL
namespace Go.Proofs.Ybulkcday
open Go.RowKit

set_option maxHeartbeats 800000 in
set_option maxRecDepth 100000 in
theorem fillA {w : World} {P X : K} (hP : P.ok w) (hXo : X.ok w) (i : Nat) (hX : P.gs[i]? = some X.ptr) (hPg : P.gs.length ≤ 100) (hX1 : 31 < X.ks.length) :
    Calls Yba.prog 14 #[P.ptr, .int .i64 i] w fun r w' => r = .returned (.int .i64 i) ∧ w = w' := by
  have hil : i < P.gs.length := (List.getElem?_eq_some_iff.1 hX).1
  obtain ⟨gk, ck, hvk, hnk, hck, hobk, hlk, hcellk⟩ := own_some hP.kid (by omega)
  obtain ⟨-, -, c2, f2⟩ := K.cells hP
  rw [hvk] at c2
  have d0 : w.cell? ⟨gk, i, none⟩ = some (.pointer (some ⟨X.p, 0, none⟩)) := (hcellk i (by omega)).trans hX
  have b0 : (i : Int) < (P.gs.length : Int) := by omega
  have b2 : decide ((31 : Int) < (X.ks.length : Int)) = true := by simp; omega
  have b6 : (0 : Int) ≤ (i : Int) := by omega
  have hXf := hXo.few
  clear hcellk hX
  unfold K.ptr
  go_enter Yba.func14, Yba.ntmps14
  go_wp2_with fail
  refine (count_q hXo X.p rfl).mono ?_
  rintro r w1 ⟨rfl, rfl⟩
  go_wp2
  go_ret
  exact ⟨rfl, rfl⟩

/-- What a merge of X and Y leaves. -/
structure Merged (w w' : World) (P X Y P' X' : K) (a : Nat) (k : List Value) : Prop where
  p : P'.ok w'
  x : X'.ok w'
  px : Dis P' X'
  keeps : Keeps (fun b => P.foot b ∨ X.foot b) w w'
  gp : ∀ b, P'.foot b → P.foot b ∨ w.heap.size ≤ b
  gx : ∀ b, X'.foot b → X.foot b ∨ w.heap.size ≤ b
  pp : P'.p = P.p
  xp : X'.p = X.p
  pk : P'.ks = P.ks.take a ++ P.ks.drop (a + 1)
  pg : P'.gs = P.gs.take (a + 1) ++ P.gs.drop (a + 2)
  xk : X'.ks = X.ks ++ k :: Y.ks
  xg : X'.gs = X.gs ++ Y.gs
  xv : X.vk = .slice none 0 0 → Y.gs = [] → X'.vk = .slice none 0 0

theorem merge_q {w : World} {P X Y : K} (T : Tri w w P X Y P X Y) (a : Nat) (hX : P.gs[a]? = some X.ptr) (hY : P.gs[a + 1]? = some Y.ptr) (hPg : P.gs.length ≤ 100) (hX1 : X.ks.length ≤ 31) (hY1 : Y.ks.length ≤ 31) (ha : a < P.ks.length) (hgX : X.gs.length ≤ 100) (hgY : Y.gs.length ≤ 100) :
    Calls Yba.prog 32 #[.pointer (some ⟨P.p, 0, none⟩), .int .i64 a] w fun r w' => r = .returned (.tuple #[]) ∧ ∃ P' X', Merged w w' P X Y P' X' a P.ks[a] := by
  refine (merge_k T.a T.b T.c T.ab T.ac T.bc a ha hX hY (by omega) (by omega) (by omega)).mono ?_
  rintro r w' ⟨rfl, P', X', h1, h2, h3, h4, h5, h6, h7, h8, h9, h10, h11, h12, h13⟩
  exact ⟨rfl, P', X', h1, h2, h3, h4, h5, h6, h7, h8, h9, h10, h11, h12, h13⟩

set_option maxHeartbeats 1600000 in
set_option maxRecDepth 100000 in
theorem fillM {w : World} {P X Y : K} (T : Tri w w P X Y P X Y) (a : Nat) (hX : P.gs[a]? = some X.ptr) (hY : P.gs[a + 1]? = some Y.ptr) (hPl : P.ks.length + 1 = P.gs.length) (hPg : P.gs.length ≤ 100)
    (hX1 : X.ks.length ≤ 31) (hY1 : Y.ks.length ≤ 31) (ha : a < P.ks.length) (hgX : X.gs.length ≤ 100) (hgY : Y.gs.length ≤ 100)
    (hZ : 0 < a → ∃ Z : K, Z.ok w ∧ P.gs[a - 1]? = some Z.ptr ∧ Z.ks.length ≤ 31) :
    Calls Yba.prog 14 #[P.ptr, .int .i64 a] w fun r w' => r = .returned (.int .i64 a) ∧ ∃ P' X', Merged w w' P X Y P' X' a P.ks[a] := by
  obtain ⟨gk, ck, hvk, hnk, hck, hobk, hlk, hcellk⟩ := own_some T.a.kid (by omega)
  obtain ⟨-, -, c2, f2⟩ := K.cells T.a
  rw [hvk] at c2
  have hm := merge_q T a hX hY hPg hX1 hY1 ha hgX hgY
  have d0 : w.cell? ⟨gk, a, none⟩ = some (.pointer (some ⟨X.p, 0, none⟩)) := (hcellk a (by omega)).trans hX
  have d1 : w.cell? ⟨gk, a + 1, none⟩ = some (.pointer (some ⟨Y.p, 0, none⟩)) := (hcellk (a + 1) (by omega)).trans hY
  have hZ' : 0 < a → ∃ Z : K, Z.ok w ∧ w.cell? ⟨gk, a - 1, none⟩ = some (.pointer (some ⟨Z.p, 0, none⟩)) ∧ Z.ks.length ≤ 31 := fun h => by
    obtain ⟨Z, h1, h2, h3⟩ := hZ h
    exact ⟨Z, h1, (hcellk (a - 1) (by omega)).trans h2, h3⟩
  have b0 : (a : Int) < (P.gs.length : Int) := by omega
  have b1 : (a : Int) + 1 < (P.gs.length : Int) := by omega
  have b2 : decide ((31 : Int) < (X.ks.length : Int)) = false := by simp; omega
  have b2' : decide ((31 : Int) < (Y.ks.length : Int)) = false := by simp; omega
  have b4 : (0 : Int) ≤ (a : Int) + 1 := by omega
  have b6 : (0 : Int) ≤ (a : Int) := by omega
  have b5 : decide ((a : Int) + 1 < (P.gs.length : Int)) = true := by simp; omega
  clear hcellk hX hY hZ
  unfold K.ptr
  go_enter Yba.func14, Yba.ntmps14
  go_wp2_with fail
  refine (count_q T.b X.p rfl).mono ?_
  rintro r w1 ⟨rfl, rfl⟩
  go_upto_region 4 with fail
  go_cut [33] from 20 to 33 (fun s wc => s = .bool false ∧ w = wc)
  case first =>
    clear b1 b4 b5 d1 hm
    by_cases ha0 : a = 0
    · subst ha0
      go_wp2_with fail
      go_meet
      case rel => exact ⟨rfl, rfl⟩
    · obtain ⟨Z, hZ1, hZ2, hZ3⟩ := hZ' (by omega)
      have z1 : decide ((0 : Int) < (a : Int)) = true := by simp; omega
      have z2 : (0 : Int) ≤ (a : Int) - 1 := by omega
      have z3 : (a : Int) - 1 < (P.gs.length : Int) := by omega
      have z4 : ((a : Int) - 1).toNat = a - 1 := by omega
      have z5 : decide ((31 : Int) < (Z.ks.length : Int)) = false := by simp; omega
      have hZf := hZ1.few
      go_wp2_with fail
      refine (count_q hZ1 Z.p rfl).mono ?_
      rintro r w1 ⟨rfl, rfl⟩
      go_wp2_with fail
      go_meet
      case rel => exact ⟨rfl, rfl⟩
  case rest =>
    obtain ⟨rfl, rfl⟩ := hcut
    clear hZ'
    go_wp2_with fail
    refine (count_q T.c Y.p rfl).mono ?_
    rintro r w1 ⟨rfl, rfl⟩
    go_wp2_with fail
    refine hm.mono ?_
    rintro r w1 ⟨rfl, P', X', M⟩
    clear hm
    go_wp2
    go_ret
    exact ⟨rfl, P', X', M⟩

set_option maxHeartbeats 1600000 in
set_option maxRecDepth 100000 in
theorem fillN {w : World} {P X Y : K} (T : Tri w w P X Y P X Y) (a : Nat) (hX : P.gs[a]? = some X.ptr) (hY : P.gs[a + 1]? = some Y.ptr) (hPl : P.ks.length + 1 = P.gs.length) (hPg : P.gs.length ≤ 100)
    (hX1 : X.ks.length ≤ 31) (hY1 : Y.ks.length ≤ 31) (ha : a < P.ks.length) (hlast : a + 2 = P.gs.length) (hgX : X.gs.length ≤ 100) (hgY : Y.gs.length ≤ 100) :
    Calls Yba.prog 14 #[P.ptr, .int .i64 ((a + 1 : Nat) : Int)] w fun r w' => r = .returned (.int .i64 a) ∧ ∃ P' X', Merged w w' P X Y P' X' a P.ks[a] := by
  obtain ⟨gk, ck, hvk, hnk, hck, hobk, hlk, hcellk⟩ := own_some T.a.kid (by omega)
  obtain ⟨-, -, c2, f2⟩ := K.cells T.a
  rw [hvk] at c2
  have hm := merge_q T a hX hY hPg hX1 hY1 ha hgX hgY
  have d0 : w.cell? ⟨gk, a, none⟩ = some (.pointer (some ⟨X.p, 0, none⟩)) := (hcellk a (by omega)).trans hX
  have d1 : w.cell? ⟨gk, a + 1, none⟩ = some (.pointer (some ⟨Y.p, 0, none⟩)) := (hcellk (a + 1) (by omega)).trans hY
  have b0 : (a : Int) < (P.gs.length : Int) := by omega
  have b1 : (a : Int) + 1 < (P.gs.length : Int) := by omega
  have b2 : decide ((31 : Int) < (X.ks.length : Int)) = false := by simp; omega
  have b2' : decide ((31 : Int) < (Y.ks.length : Int)) = false := by simp; omega
  have b4 : (0 : Int) ≤ (a : Int) + 1 := by omega
  have b6 : (0 : Int) ≤ (a : Int) := by omega
  have b7 : decide ((0 : Int) < (a : Int) + 1) = true := by rw [decide_eq_true_iff]; omega
  have b5 : decide ((a : Int) + 1 + 1 < (P.gs.length : Int)) = false := by simp; omega
  have b8 : decide ((a : Int) + 2 < (P.gs.length : Int)) = false := by simp; omega
  clear hcellk hX hY
  unfold K.ptr
  go_enter Yba.func14, Yba.ntmps14
  go_wp2_with fail
  refine (count_q T.c Y.p rfl).mono ?_
  rintro r w1 ⟨rfl, rfl⟩
  go_wp2_with fail
  refine (count_q T.b X.p rfl).mono ?_
  rintro r w1 ⟨rfl, rfl⟩
  go_wp2_with fail
  refine hm.mono ?_
  rintro r w1 ⟨rfl, P', X', M⟩
  clear hm
  go_wp2
  go_ret
  exact ⟨rfl, P', X', M⟩
end Go.Proofs.Ybulkcday
