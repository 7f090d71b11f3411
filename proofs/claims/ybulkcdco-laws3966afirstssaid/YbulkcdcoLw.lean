import Derived.Test.YbulkcdcoEq
namespace Go.Proofs.Ybulkcdco
open Go.RowKit
open Go.ChangeMaps (setBlock)

/-- What the loop keeps. -/
def Inv (w0 w : World) (pg B : Nat) (vp vO vA vD vP : Value) (L : List E) (PL : List Ob) : Prop :=
  Sep w0 w [Res.rows pg B vp L PL, Res.row 37 5 vO L.length (L.flatMap fun x => x.o.cells), Res.row 3 1 vA L.length (L.map fun x => Value.int .i64 x.a), Res.row 3 1 vD L.length (L.map fun x => Value.int .i64 x.d), Res.row 37 5 vP PL.length (PL.flatMap Ob.cells)]

theorem own_some5 {w : World} {e : TypeId} {v : Value} {n z : Nat} {xs : List Value} (h : w.ownsRow 0 e z v n xs) (hn : 0 < n) : ∃ g cap, v = .slice (some ⟨g, 0, none⟩) n cap ∧ ∀ j u, xs[j]? = some u → w.cell? ⟨g, j, none⟩ = some u := by
  rcases h.2 with ⟨_, h0⟩ | ⟨g, cap, cur, rfl, hb, hg, hnc, hcm, hcs, htake⟩
  · omega
  · refine ⟨g, cap, rfl, fun j u hu => ?_⟩
    have := h.cells (g := g) rfl j u hu
    have hadd : (⟨g, 0, none⟩ : Addr).add j = ⟨g, j, none⟩ := by unfold Addr.add; split <;> simp_all
    rwa [hadd] at this
theorem flat5 : ∀ (l : List Ob) (q : Nat) (hq : q < l.length) (c : Nat), c < 5 → (l.flatMap Ob.cells)[q * 5 + c]? = l[q].cells[c]?
  | [], q, hq, _, _ => by simp at hq
  | o :: l, 0, _, c, hc => by
    rw [List.flatMap_cons, List.getElem?_append_left (by simp [Ob.cells]; omega)]; simp
  | o :: l, q + 1, hq, c, hc => by
    rw [List.flatMap_cons, List.getElem?_append_right (by simp [Ob.cells]; omega)]
    have := flat5 l q (by simpa using hq) c hc
    rw [show (q + 1) * 5 + c - o.cells.length = q * 5 + c by simp [Ob.cells]; omega, this]; simp
/-- The cells of the q-th object of a row. -/
theorem ob_cells {w : World} {g : Nat} {l : List Ob} (hc : ∀ j u, (l.flatMap Ob.cells)[j]? = some u → w.cell? ⟨g, j, none⟩ = some u) (q : Nat) (hq : q < l.length) :
    w.cell? ⟨g, q * 5, none⟩ = some (.string l[q].k) ∧ w.cell? ⟨g, q * 5 + 1, none⟩ = some (.string l[q].p) ∧ w.cell? ⟨g, q * 5 + 2, none⟩ = some (.string l[q].r) ∧ w.cell? ⟨g, q * 5 + 3, none⟩ = some (.int .u16 (l[q].lo : Int)) ∧ w.cell? ⟨g, q * 5 + 4, none⟩ = some (.int .u16 (l[q].hi : Int)) := by
  refine ⟨hc _ _ ?_, hc _ _ ?_, hc _ _ ?_, hc _ _ ?_, hc _ _ ?_⟩
  · rw [← Nat.add_zero (q * 5), flat5 l q hq 0 (by omega)]; rfl
  · rw [flat5 l q hq 1 (by omega)]; rfl
  · rw [flat5 l q hq 2 (by omega)]; rfl
  · rw [flat5 l q hq 3 (by omega)]; rfl
  · rw [flat5 l q hq 4 (by omega)]; rfl

theorem inv_start (w : World) : Inv w ((w.alloc (.map #[] 0)).alloc (.cells #[.map (some w.heap.size), .slice none 0 0] 27)) (w.heap.size + 1) w.heap.size (.slice none 0 0) (.slice none 0 0) (.slice none 0 0) (.slice none 0 0) (.slice none 0 0) [] [] := by
  have S0 : Sep w ((w.alloc (.map #[] 0)).alloc (.cells #[.map (some w.heap.size), .slice none 0 0] 27)) [Res.rows (w.heap.size + 1) w.heap.size (.slice none 0 0) [] []] := by
    refine (Sep.nil (Keeps.refl _ w)).add (r := Res.rows (w.heap.size + 1) w.heap.size (.slice none 0 0) [] []) ?_ (((Keeps.refl _ w).alloc _).alloc _) (fun b hb => ?_)
    · exact ⟨heap_alloc2_new w _ _, ⟨#[], 0, heap_alloc2_old w _ _, rfl⟩, (fun x hx => by cases hx), World.ownsRow_nil _ _ _ _, .nil, .nil, (fun x hx => by cases hx), (fun x hx => by cases hx)⟩
    · rcases hb with rfl | rfl | ⟨x, hx, _⟩ | hb
      · omega
      · exact Nat.le_refl _
      · cases hx
      · simp [Value.ownBlock] at hb
  have S1 := (((S0.nilRow 37 5).nilRow 3 1).nilRow 3 1).nilRow 37 5
  exact S1.perm (List.reverse_perm [_, _, _, _, _])

theorem Sep.p7 {w0 w : World} {a b c d e f g : Res} {rs : List Res} (S : Sep w0 w (a :: b :: c :: d :: e :: f :: g :: rs)) : Sep w0 w (g :: a :: b :: c :: d :: e :: f :: rs) :=
  S.perm (List.perm_middle (l₁ := [a, b, c, d, e, f]) (l₂ := rs))
theorem Sep.back {w0 w : World} {a b c d e f g : Res} (S : Sep w0 w [g, f, e, d, a, c, b]) : Sep w0 w [a, b, c, d, e, f, g] :=
  (S.perm (List.reverse_perm [b, c, a, d, e, f, g])).p3
theorem Sep.arrA {w0 w : World} {a r s g o d p : Res} (S : Sep w0 w [a, r, s, g, o, d, p]) : Sep w0 w [r, o, a, d, p, s, g] := S.p4.p4.p7.p7.p5.p7.p7
theorem Sep.arrD {w0 w : World} {a r s g o d p : Res} (S : Sep w0 w [d, r, s, g, o, a, p]) : Sep w0 w [r, o, a, d, p, s, g] := S.p4.p4.p7.p4.p7.p7.p7
theorem flat_set {L : List E} {i : Nat} (hi : i < L.length) (x : E) (h : x.o = L[i].o) : (L.set i x).flatMap (fun x => x.o.cells) = L.flatMap (fun x => x.o.cells) := by
  have := map_set_same E.o L i hi x h
  have e : ∀ l : List E, l.flatMap (fun x => x.o.cells) = (l.map E.o).flatMap Ob.cells := fun l => by rw [List.flatMap_map]
  rw [e, e, this]
/-- The next round's state. -/
theorem inv_next {w0 w : World} {pg B : Nat} {vp vO vA vD vP : Value} {L : List E} {PL : List Ob} {i : Nat} (hi : i < L.length) (b : Bool) (n : Int) {rs : List Res}
    (S : Sep w0 w (Res.rows pg B vp (L.set i (bump b n L[i])) PL :: Res.row 37 5 vO L.length (L.flatMap fun x => x.o.cells) :: Res.row 3 1 vA L.length (if b then (L.map fun x => Value.int .i64 x.a).set i (.int .i64 (lst L[i].a n)) else L.map fun x => Value.int .i64 x.a) :: Res.row 3 1 vD L.length (if b then L.map fun x => Value.int .i64 x.d else (L.map fun x => Value.int .i64 x.d).set i (.int .i64 (lst L[i].d n))) :: Res.row 37 5 vP PL.length (PL.flatMap Ob.cells) :: rs)) :
    Inv w0 w pg B vp vO vA vD vP (L.set i (bump b n L[i])) PL := by
  have S' : Sep w0 w [Res.rows pg B vp (L.set i (bump b n L[i])) PL, Res.row 37 5 vO L.length (L.flatMap fun x => x.o.cells), Res.row 3 1 vA L.length (if b then (L.map fun x => Value.int .i64 x.a).set i (.int .i64 (lst L[i].a n)) else L.map fun x => Value.int .i64 x.a), Res.row 3 1 vD L.length (if b then L.map fun x => Value.int .i64 x.d else (L.map fun x => Value.int .i64 x.d).set i (.int .i64 (lst L[i].d n))), Res.row 37 5 vP PL.length (PL.flatMap Ob.cells)] :=
    ⟨S.base, fun r hr => S.all r (by simp at hr ⊢; rcases hr with h | h | h | h | h <;> simp [h]), S.dis.sublist (by simp), fun r hr => S.new r (by simp at hr ⊢; rcases hr with h | h | h | h | h <;> simp [h])⟩
  unfold Inv
  rw [List.length_set, flat_set hi _ (by unfold bump; split <;> rfl)]
  cases b with
  | true =>
    rw [map_set_same (fun x : E => Value.int .i64 x.d) L i hi (bump true n L[i]) rfl, show (L.set i (bump true n L[i])).map (fun x => Value.int .i64 x.a) = (L.map fun x => Value.int .i64 x.a).set i (.int .i64 (lst L[i].a n)) by rw [List.map_set]; rfl]
    exact S'
  | false =>
    rw [map_set_same (fun x : E => Value.int .i64 x.a) L i hi (bump false n L[i]) rfl, show (L.set i (bump false n L[i])).map (fun x => Value.int .i64 x.d) = (L.map fun x => Value.int .i64 x.d).set i (.int .i64 (lst L[i].d n)) by rw [List.map_set]; rfl]
    exact S'
theorem own_at {w : World} {v : Value} {n : Nat} {xs : List Value} (h : w.ownsRow 0 3 1 v n xs) (i : Nat) (hi : i < n) : ∃ g c, v = .slice (some ⟨g, 0, none⟩) n c ∧ w.cell? ⟨g, i, none⟩ = xs[i]? ∧ w.frozen? ⟨g, i, none⟩ = false := by
  rcases h.2 with ⟨_, h0⟩ | ⟨g, cap, cur, rfl, hb, hg, hnc, hcm, hcs, htake⟩
  · omega
  · exact ⟨g, cap, rfl, h.cellAt i (by omega), h.frozenAt i⟩

theorem Yba.info3 : (Yba.prog.info? 3).map (fun i => (i.zero, i.size, i.bytes)) = some (some (.int .i64 0), 1, 8) := by kernel_rfl

end Go.Proofs.Ybulkcdco
