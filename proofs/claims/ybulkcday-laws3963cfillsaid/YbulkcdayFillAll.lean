import Derived.Test.YbulkcdayFill
namespace Go.Proofs.Ybulkcday
open Go.RowKit

theorem two_of {α : Type} (l : List α) (a : Nat) (h : a + 1 < l.length) : ∃ A X Y B, l = A ++ X :: Y :: B ∧ A.length = a :=
  ⟨l.take a, l[a], l[a + 1], l.drop (a + 2), split_two l a h, by simp; omega⟩
theorem key_of {α : Type} (l : List α) (a : Nat) (h : a < l.length) : ∃ p1 p2, l = p1 ++ l[a] :: p2 ∧ a = p1.length :=
  ⟨l.take a, l.drop (a + 1), split_one l a h, by simp; omega⟩

theorem Sep.kidAt {w0 w : World} {P : K} {kids : List K} {rs : List Res} (S : Sep w0 w (Res.k P :: (kids.map Res.k ++ rs))) (c : K) (hc : c ∈ kids) : c.ok w :=
  S.all (Res.k c) (List.mem_cons_of_mem _ (List.mem_append_left _ (List.mem_map_of_mem hc)))

section
variable {w0 w : World} {inn : Bool} {P X Y : K} {A B : List K} {rs : List Res}
  (T : Tree inn P (A ++ X :: Y :: B)) (S : Sep w0 w (Res.k P :: ((A ++ X :: Y :: B).map Res.k ++ rs)))
include T S

theorem two_facts : Tri w w P X Y P X Y ∧ P.gs[A.length]? = some X.ptr ∧ P.gs[A.length + 1]? = some Y.ptr ∧ P.ks.length + 1 = P.gs.length ∧ P.gs.length ≤ 100 ∧ A.length < P.ks.length ∧
    X.ks.length ≤ 64 ∧ Y.ks.length ≤ 64 ∧ 1 ≤ X.ks.length ∧ 1 ≤ Y.ks.length ∧ X.gs.length ≤ 100 ∧ Y.gs.length ≤ 100 ∧
    (∀ a, 0 < a → a = A.length → ∃ Z : K, Z.ok w ∧ P.gs[a - 1]? = some Z.ptr ∧ (counts (A ++ X :: Y :: B)).getD (a - 1) 0 = Z.ks.length) := by
  have h1 := T.len
  have h2 := T.few
  have hX := T.cnt X (by simp)
  have hY := T.cnt Y (by simp)
  have gl : ∀ c ∈ A ++ X :: Y :: B, c.gs.length ≤ 100 := fun c hc => by
    have h3 := T.lf c hc
    have h4 := T.cnt c hc
    cases inn with
    | false => rw [(h3.1 rfl).2]; simp
    | true => rw [h3.2 rfl]; omega
  have hgl : P.gs.length = (A ++ X :: Y :: B).length := by rw [T.gs, List.length_map]
  refine ⟨(S.perm (List.Perm.cons _ (perm_kids Res.k A B X Y rs))).tri, ?_, ?_, by omega, by omega, ?_, hX.2, hY.2, hX.1, hY.1, gl X (by simp), gl Y (by simp), ?_⟩
  · rw [T.gs]; simp
  · rw [T.gs]; simp
  · simp at h1; omega
  · intro a h0 ha
    have hl : a - 1 < A.length := by omega
    refine ⟨A[a - 1], ?_, ?_, ?_⟩
    · exact S.kidAt A[a - 1] (by simp)
    · rw [T.gs]; simp [List.getElem?_append_left, hl]
    · unfold counts; simp [List.getElem?_append_left, hl]
end

theorem cnt0 (A B : List K) (X Y : K) : (counts (A ++ X :: Y :: B)).getD A.length 0 = X.ks.length := by unfold counts; simp
theorem cnt1 (A B : List K) (X Y : K) : (counts (A ++ X :: Y :: B)).getD (A.length + 1) 0 = Y.ks.length := by unfold counts; simp
theorem cntl (A B : List K) (X Y : K) : (counts (A ++ X :: Y :: B)).length = A.length + (B.length + 2) := by unfold counts; simp

theorem fill_all {w0 w : World} {inn : Bool} {P : K} {kids : List K} {rs : List Res} (T : Tree inn P kids) (S : Sep w0 w (Res.k P :: (kids.map Res.k ++ rs))) (i : Nat) (hi : i < kids.length) (h2 : 2 ≤ kids.length) :
    Calls Yba.prog 14 #[P.ptr, .int .i64 i] w fun r w' => r = .returned (.int .i64 (((table (counts kids) i).1 : Nat) : Int)) ∧ ∃ P' kids', Filled w0 w' inn P kids rs (table (counts kids) i).2 P' kids' := by
  have hget : (counts kids).getD i 0 = kids[i].ks.length := by unfold counts; simp [hi]
  have hfew := T.few
  have hgl : P.gs.length = kids.length := by rw [T.gs, List.length_map]
  by_cases hA : 31 < (counts kids).getD i 0
  · have ht : table (counts kids) i = (i, counts kids) := by unfold table; rw [if_pos hA]
    rw [ht]
    have hX : P.gs[i]? = some kids[i].ptr := by rw [T.gs]; simp [hi]
    refine (fillA (P := P) (X := kids[i]) S.head (S.kidAt kids[i] (by simp)) i hX (by omega) (by rw [← hget]; exact hA)).mono ?_
    rintro r w' ⟨rfl, rfl⟩
    exact ⟨rfl, P, kids, ⟨T, S, rfl, rfl, rfl, rfl⟩⟩
  by_cases hL : 0 < i ∧ 31 < (counts kids).getD (i - 1) 0
  · obtain ⟨a, rfl⟩ : ∃ a, i = a + 1 := ⟨i - 1, by omega⟩
    have ht : table (counts kids) (a + 1) = (a + 1, ((counts kids).set a ((counts kids).getD a 0 - 1)).set (a + 1) ((counts kids).getD (a + 1) 0 + 1)) := by
      unfold table; rw [if_neg hA, if_pos hL]; rfl
    rw [ht]
    clear hget ht
    obtain ⟨A, X, Y, B, rfl, rfl⟩ := two_of kids a hi
    obtain ⟨Tr, gX, gY, hPl, hPg, ha, x1, y1, x0, y0, gx, gy, hZ⟩ := two_facts T S
    rw [show A.length + 1 - 1 = A.length by omega] at hL
    rw [cnt0, cnt1] at *
    obtain ⟨p1, p2, hp, hA1⟩ := key_of P.ks A.length ha
    refine (fillL Tr A.length (X.ks.length - 1) gX gY hPl hPg (by omega) (by omega) (by omega) (by omega) ha (T.pst _ (by simp)) (T.kst X (by simp)) inn (T.lf X (by simp)) (T.lf Y (by simp))).mono ?_
    rintro r w' ⟨rfl, P', X', Y', k', Tr', h1, h3, h4, h5, h6, h7, h8⟩
    have hyl : Y'.ks.length = Y.ks.length + 1 := by
      have := congrArg List.length h4
      simp at this; omega
    have F := shift_tree T S hp hA1 Tr' h1 h3 h4 h6 h7 h8 (by omega) (by omega)
    rw [h5, hyl] at F
    exact ⟨rfl, P', _, F⟩
  by_cases hR : i + 1 < (counts kids).length ∧ 31 < (counts kids).getD (i + 1) 0
  · have ht : table (counts kids) i = (i, ((counts kids).set (i + 1) ((counts kids).getD (i + 1) 0 - 1)).set i ((counts kids).getD i 0 + 1)) := by
      unfold table; rw [if_neg hA, if_neg hL, if_pos hR]
    rw [ht]
    clear hget ht
    have hi1 : i + 1 < kids.length := by simpa [counts] using hR.1
    obtain ⟨A, X, Y, B, rfl, rfl⟩ := two_of kids i hi1
    obtain ⟨Tr, gX, gY, hPl, hPg, ha, x1, y1, x0, y0, gx, gy, hZ⟩ := two_facts T S
    have hZ' : 0 < A.length → ∃ Z : K, Z.ok w ∧ P.gs[A.length - 1]? = some Z.ptr ∧ Z.ks.length ≤ 31 := fun h0 => by
      obtain ⟨Z, z1, z2, z3⟩ := hZ A.length h0 rfl
      exact ⟨Z, z1, z2, by rw [← z3]; omega⟩
    rw [cnt0, cnt1] at *
    obtain ⟨p1, p2, hp, hA1⟩ := key_of P.ks A.length ha
    refine (fillR Tr A.length (Y.ks.length - 1) gX gY hPl hPg (by omega) (by omega) (by omega) (by omega) ha (T.kst Y (by simp)) inn (T.lf X (by simp)) (T.lf Y (by simp)) hZ').mono ?_
    rintro r w' ⟨rfl, P', X', Y', k', Tr', h1, h3, h4, h5, h6, h7, h8⟩
    have hyl : Y'.ks.length = Y.ks.length - 1 := by
      have := congrArg List.length h4
      simp at this; omega
    have F := shift_tree T S hp hA1 Tr' h1 h3 h4 h6 h7 h8 (by omega) (by omega)
    rw [h5, hyl, List.set_comm _ _ (by omega)] at F
    exact ⟨rfl, P', _, F⟩
  by_cases hM : i + 1 < (counts kids).length
  · have ht : table (counts kids) i = (i, ((counts kids).set i ((counts kids).getD i 0 + 1 + (counts kids).getD (i + 1) 0)).take (i + 1) ++ ((counts kids).set i ((counts kids).getD i 0 + 1 + (counts kids).getD (i + 1) 0)).drop (i + 2)) := by
      unfold table; rw [if_neg hA, if_neg hL, if_neg hR, if_pos hM]
    rw [ht]
    clear hget ht
    have hi1 : i + 1 < kids.length := by simpa [counts] using hM
    obtain ⟨A, X, Y, B, rfl, rfl⟩ := two_of kids i hi1
    obtain ⟨Tr, gX, gY, hPl, hPg, ha, x1, y1, x0, y0, gx, gy, hZ⟩ := two_facts T S
    have hZ' : 0 < A.length → ∃ Z : K, Z.ok w ∧ P.gs[A.length - 1]? = some Z.ptr ∧ Z.ks.length ≤ 31 := fun h0 => by
      obtain ⟨Z, z1, z2, z3⟩ := hZ A.length h0 rfl
      exact ⟨Z, z1, z2, by rw [← z3]; omega⟩
    rw [cnt0, cnt1] at *
    obtain ⟨p1, p2, hp, hA1⟩ := key_of P.ks A.length ha
    refine (fillM Tr A.length gX gY hPl hPg (by omega) (by omega) ha gx gy hZ').mono ?_
    rintro r w' ⟨rfl, P', X', M⟩
    exact ⟨rfl, P', _, merge_tree T S hp hA1 M (by omega)⟩
  · have hlast : i + 1 = kids.length := by simp [counts] at hM; omega
    obtain ⟨a, rfl⟩ : ∃ a, i = a + 1 := ⟨i - 1, by omega⟩
    have ht : table (counts kids) (a + 1) = (a, ((counts kids).set a ((counts kids).getD a 0 + 1 + (counts kids).getD (a + 1) 0)).take (a + 1) ++ ((counts kids).set a ((counts kids).getD a 0 + 1 + (counts kids).getD (a + 1) 0)).drop (a + 2)) := by
      unfold table; rw [if_neg hA, if_neg hL, if_neg hR, if_neg hM]; rfl
    rw [ht]
    clear hget ht
    obtain ⟨A, X, Y, B, rfl, rfl⟩ := two_of kids a hi
    obtain ⟨Tr, gX, gY, hPl, hPg, ha, x1, y1, x0, y0, gx, gy, hZ⟩ := two_facts T S
    rw [show A.length + 1 - 1 = A.length by omega] at hL
    rw [cnt0, cnt1] at *
    obtain ⟨p1, p2, hp, hA1⟩ := key_of P.ks A.length ha
    refine (fillN Tr A.length gX gY hPl hPg (by omega) (by omega) ha (by omega) gx gy).mono ?_
    rintro r w' ⟨rfl, P', X', M⟩
    exact ⟨rfl, P', _, merge_tree T S hp hA1 M (by omega)⟩
end Go.Proofs.Ybulkcday
