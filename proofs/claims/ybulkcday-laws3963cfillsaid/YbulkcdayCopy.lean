import Derived.Test.YbulkcdayNode
import Derived.Laws.IdiomCopy
namespace Go.Proofs.Ybulkcday
open Go.RowKit

theorem splice_take {α : Type} (l news : List α) (j m n : Nat) (hm : news.length = m) (hj : j + m ≤ n) (hn : n ≤ l.length) : (l.take j ++ news ++ l.drop (j + m)).take n = (l.take n).take j ++ (news ++ (l.take n).drop (j + m)) := by
  have e1 : l.take j = (l.take n).take j := by rw [List.take_take]; congr 1; omega
  have e2 : l.drop (j + m) = (l.take n).drop (j + m) ++ l.drop n := by
    have : l = l.take n ++ l.drop n := (List.take_append_drop n l).symm
    rw [← List.drop_append_of_le_length (by simp; omega), ← this]
  have hl : (l.take n).length = n := by simp; omega
  rw [e1, e2]
  generalize l.take n = A at *
  have : A.take j ++ news ++ (A.drop (j + m) ++ l.drop n) = (A.take j ++ (news ++ A.drop (j + m))) ++ l.drop n := by simp
  rw [this]
  exact List.take_left' (by simp; omega)

section
variable {P : Program} (w : World)

/-- copy into an owned slice, from whatever source (the slice itself too). -/
theorem run_copy_in (dT sT ty e : TypeId) (hu : P.underlying dT = some (.slice e)) (hs : (P.info? e).map (·.size) = some 1)
    (g n cap : Nat) (xs : List Value) (hown : w.ownsRow 0 e 1 (.slice (some ⟨g, 0, none⟩) n cap) n xs)
    (dp : Option Addr) (dLen dCap j m : Nat) (sLen sCap : Nat) (sp : Option Addr) (hm : Nat.min sLen dLen = m) (hdp : m ≠ 0 → dp = some ⟨g, j, none⟩) (news : List Value) (hsrc : Src w 1 (.slice sp m sCap) m news) (hj : j + m ≤ n) :
    ∃ w', (Builtin.copy_ #[dT, sT] ty #[.slice dp dLen dCap, .slice sp sLen sCap]).run P w = .ok (goInt m) w' ∧ w'.ownsRow 0 e 1 (.slice (some ⟨g, 0, none⟩) n cap) n (xs.take j ++ (news ++ xs.drop (j + m))) ∧ Keeps (fun b => b = g) w w' := by
  obtain ⟨hl, h1, ao, c, hx, hao, hcell⟩ := hsrc
  cases hx
  have hxl : xs.length = n := by have := hown.1; omega
  by_cases h0 : m = 0
  · subst h0
    obtain rfl : news = [] := List.eq_nil_of_length_eq_zero (by simpa using hl)
    refine ⟨w, by have := run_copy_none (P := P) w dT sT ty e dp sp dLen dCap sLen sCap hu hs hm; simpa using this, ?_, Keeps.refl _ _⟩
    simpa using hown
  · rw [hdp h0]
    cases sp with
    | none => exact absurd (hao rfl) h0
    | some a =>
      rcases hown.2 with ⟨h, _⟩ | ⟨g', cap', cur, hv, hb, hg, hnc, hcm, hcs, htake⟩
      · cases h
      · cases hv
        have hr := run_copy_row (P := P) w dT sT ty e g j dLen dCap a sLen sCap cur e news hu hs hg (by rw [hm]; omega) (hcell a rfl) (by omega) h1
        have hnl : news.length = m := by omega
        rw [hnl] at hr
        refine ⟨_, hr, ⟨by simp [hxl, hnl]; omega, .inr ⟨g, cap, _, rfl, hb, setRow_heap w g cur _ e _ hg, hnc, hcm, ?_, ?_⟩⟩, ⟨rfl, rfl, rfl, by simp, fun k _ hk => setRow_other w g k _ hk⟩⟩
        · simp only [List.size_toArray, List.length_append, List.length_take, List.length_drop, Array.length_toList]; omega
        · rw [← htake, Nat.mul_one]; exact splice_take cur.toList news j m n hnl hj (by simp; omega)

theorem run_copy_in_string (dT sT ty e : TypeId) (hu : P.underlying dT = some (.slice e)) (hs : (P.info? e).map (·.size) = some 1)
    (g n cap : Nat) (xs : List Value) (hown : w.ownsRow 0 e 1 (.slice (some ⟨g, 0, none⟩) n cap) n xs)
    (dLen dCap j : Nat) (s : ByteArray) (hm : s.size ≤ dLen) (hj : j + s.size ≤ n) :
    ∃ w', (Builtin.copy_ #[dT, sT] ty #[.slice (some ⟨g, j, none⟩) dLen dCap, .string s]).run P w = .ok (goInt s.size) w' ∧ w'.ownsRow 0 e 1 (.slice (some ⟨g, 0, none⟩) n cap) n (xs.take j ++ (Lib.strCells s ++ xs.drop (j + s.size))) ∧ Keeps (fun b => b = g) w w' := by
  have hxl : xs.length = n := by have := hown.1; omega
  rcases hown.2 with ⟨h, _⟩ | ⟨g', cap', cur, hv, hb, hg, hnc, hcm, hcs, htake⟩
  · cases h
  · cases hv
    have hnl := Lib.strCells_length s
    have hst := run_storeCells_at P g j e (Lib.strCells s) 0 cur w hg (by rw [hnl]; simp; omega) (Lib.strCells_oneCell s)
    have hmin : Nat.min s.size dLen = s.size := Nat.min_eq_left hm
    have hf := Lib.run_firstCells_string (P := P) w 1 s
    have hr : (Builtin.copy_ #[dT, sT] ty #[.slice (some ⟨g, j, none⟩) dLen dCap, .string s]).run P w = .ok (goInt s.size) (w.setRow g (cur.toList.take j ++ Lib.strCells s ++ cur.toList.drop (j + s.size)).toArray) := by
      cases hq : P.info? e with
      | none => simp [hq] at hs
      | some i =>
        simp only [hq, Option.map_some, Option.some.injEq] at hs
        simp only [Nat.add_zero, hnl] at hst
        simp [Builtin.copy_, run_underlying hu, Builtin.lenOf, sizeOf, typeInfo, hq, hs, hmin, hf, hst]
    refine ⟨_, hr, ⟨by simp [hxl, hnl]; omega, .inr ⟨g, cap, _, rfl, hb, setRow_heap w g cur _ e _ hg, hnc, hcm, ?_, ?_⟩⟩, ⟨rfl, rfl, rfl, by simp, fun k _ hk => setRow_other w g k _ hk⟩⟩
    · simp only [List.size_toArray, List.length_append, List.length_take, List.length_drop, Array.length_toList, hnl]; omega
    · rw [← htake, Nat.mul_one]; exact splice_take cur.toList _ j s.size n hnl hj (by simp; omega)
end

theorem step_copy_in {P : Program} {ops : Array Oper} {o : Oper} {a : Act} {w : World} {K : Act → World → Prop} {Q : Exit → Act → World → Prop} {E : Prop} (hgd : o.guard = none) (d s : Operand) (dT sT : TypeId)
    (ho : o.op = .call { callee := .builtin .copy, args := #[d, s], argTypes := #[dT, sT] }) (e : TypeId) (hu : P.underlying dT = some (.slice e)) (hs : (P.info? e).map (·.size) = some 1)
    (g n cap : Nat) (xs : List Value) (hown : w.ownsRow 0 e 1 (.slice (some ⟨g, 0, none⟩) n cap) n xs)
    (dp : Option Addr) (dLen dCap j m : Nat) (sLen sCap : Nat) (sp : Option Addr) (hd : a.eval d = .slice dp dLen dCap) (hsv : a.eval s = .slice sp sLen sCap) (hm : Nat.min sLen dLen = m) (hdp : m ≠ 0 → dp = some ⟨g, j, none⟩) (news : List Value) (hsrc : Src w 1 (.slice sp m sCap) m news) (hj : j + m ≤ n)
    (h : ∀ w', w'.ownsRow 0 e 1 (.slice (some ⟨g, 0, none⟩) n cap) n (xs.take j ++ (news ++ xs.drop (j + m))) → Keeps (fun b => b = g) w w' → K (a.put o.dst (goInt m)) w') :
    if Region.wanted o (yielded ops a.tmps) = true then Oper.wp P o a w K Q else E := by
  have hw : Region.wanted o (yielded ops a.tmps) = true := by simp [Region.wanted, hgd]
  rw [if_pos hw]
  obtain ⟨w', hr, h2, h3⟩ := run_copy_in (P := P) w dT sT o.type e hu hs g n cap xs hown dp dLen dCap j m sLen sCap sp hm hdp news hsrc hj
  unfold Oper.wp execOp
  simp only [ho, resolve, invoke, builtin, Sem.run_bind, Sem.run_pure, Result.andThen_ok, List.map_toArray, List.map_cons, List.map_nil, hd, hsv, hr]
  exact h w' h2 h3

theorem wpList_copy_in {P : Program} {w : World} {ops : Array Oper} {rest : List Oper} {o : Oper} {a : Act} {Q : Exit → Act → World → Prop} (hgd : o.guard = none) (d s : Operand) (dT sT : TypeId)
    (ho : o.op = .call { callee := .builtin .copy, args := #[d, s], argTypes := #[dT, sT] }) (e : TypeId) (hu : P.underlying dT = some (.slice e)) (hs : (P.info? e).map (·.size) = some 1)
    (g n cap : Nat) (xs : List Value) (hown : w.ownsRow 0 e 1 (.slice (some ⟨g, 0, none⟩) n cap) n xs)
    (dp : Option Addr) (dLen dCap j m : Nat) (sLen sCap : Nat) (sp : Option Addr) (hd : a.eval d = .slice dp dLen dCap) (hsv : a.eval s = .slice sp sLen sCap) (hm : Nat.min sLen dLen = m) (hdp : m ≠ 0 → dp = some ⟨g, j, none⟩) (news : List Value) (hsrc : Src w 1 (.slice sp m sCap) m news) (hj : j + m ≤ n)
    (h : ∀ w', w'.ownsRow 0 e 1 (.slice (some ⟨g, 0, none⟩) n cap) n (xs.take j ++ (news ++ xs.drop (j + m))) → Keeps (fun b => b = g) w w' → wpList P ops Q rest (a.put o.dst (goInt m)) w') : wpList P ops Q (o :: rest) a w := by
  refine wpList_plain hgd fun K hK => ?_
  obtain ⟨w', hr, h2, h3⟩ := run_copy_in (P := P) w dT sT o.type e hu hs g n cap xs hown dp dLen dCap j m sLen sCap sp hm hdp news hsrc hj
  unfold Oper.wp execOp
  simp only [ho, resolve, invoke, builtin, Sem.run_bind, Sem.run_pure, Result.andThen_ok, List.map_toArray, List.map_cons, List.map_nil, hd, hsv, hr]
  exact hK _ _ (h w' h2 h3)

theorem wpList_copy_str {P : Program} {w : World} {ops : Array Oper} {rest : List Oper} {o : Oper} {a : Act} {Q : Exit → Act → World → Prop} (hgd : o.guard = none) (d x : Operand) (dT sT : TypeId)
    (ho : o.op = .call { callee := .builtin .copy, args := #[d, x], argTypes := #[dT, sT] }) (e : TypeId) (hu : P.underlying dT = some (.slice e)) (hs : (P.info? e).map (·.size) = some 1)
    (g n cap : Nat) (xs : List Value) (hown : w.ownsRow 0 e 1 (.slice (some ⟨g, 0, none⟩) n cap) n xs)
    (dLen dCap j : Nat) (s : ByteArray) (hd : a.eval d = .slice (some ⟨g, j, none⟩) dLen dCap) (hsv : a.eval x = .string s) (hm : s.size ≤ dLen) (hj : j + s.size ≤ n)
    (h : ∀ w', w'.ownsRow 0 e 1 (.slice (some ⟨g, 0, none⟩) n cap) n (xs.take j ++ (Lib.strCells s ++ xs.drop (j + s.size))) → Keeps (fun b => b = g) w w' → wpList P ops Q rest (a.put o.dst (goInt s.size)) w') : wpList P ops Q (o :: rest) a w := by
  refine wpList_plain hgd fun K hK => ?_
  obtain ⟨w', hr, h2, h3⟩ := run_copy_in_string (P := P) w dT sT o.type e hu hs g n cap xs hown dLen dCap j s hm hj
  unfold Oper.wp execOp
  simp only [ho, resolve, invoke, builtin, Sem.run_bind, Sem.run_pure, Result.andThen_ok, List.map_toArray, List.map_cons, List.map_nil, hd, hsv, hr]
  exact hK _ _ (h w' h2 h3)

/-- Room behind an owned slice, taken in. -/
theorem own_more {w : World} {e : TypeId} {g n cap : Nat} {xs : List Value} (h : w.ownsRow 0 e 1 (.slice (some ⟨g, 0, none⟩) n cap) n xs) (m : Nat) (hm : n + m ≤ cap) : ∃ ys, ys.length = m ∧ w.ownsRow 0 e 1 (.slice (some ⟨g, 0, none⟩) (n + m) cap) (n + m) (xs ++ ys) := by
  rcases h.2 with ⟨h, _⟩ | ⟨g', cap', cur, hv, hb, hg, hnc, hcm, hcs, htake⟩
  · cases h
  · cases hv
    have hxl : xs.length = n := by have := h.1; omega
    have hcz : cur.size = cap := by omega
    refine ⟨(cur.toList.drop n).take m, by simp; omega, by simp [hxl]; omega, .inr ⟨g, cap, cur, rfl, hb, hg, hm, hcm, hcs, ?_⟩⟩
    rw [← htake, Nat.mul_one, Nat.mul_one, List.take_add]

theorem Yba.size5 : (Yba.prog.info? 5).map (·.size) = some 1 := by kernel_rfl
theorem Yba.size3 : (Yba.prog.info? 3).map (·.size) = some 1 := by kernel_rfl
theorem Yba.size24 : (Yba.prog.info? 24).map (·.size) = some 1 := by kernel_rfl
end Go.Proofs.Ybulkcday
