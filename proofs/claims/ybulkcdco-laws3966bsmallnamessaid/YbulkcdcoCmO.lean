import Derived.Test.YbulkcdcoEn
import Derived.Test.YbulkcdcoGr
import Derived.Test.YbulkcdcoPop
import Derived.Test.YbulkcdcoSr
import Derived.Deep.LoopGhost
import Derived.StillTailTactics
namespace Go.Proofs.Ybulkcdco
open Go.RowKit

theorem Yba.infoE4 : (Yba.prog.info? 4).map (fun i => (i.zero, i.size, i.bytes)) = some (some (.bool false), 1, 1) := by kernel_rfl
theorem Sep.boolAt {w0 w : World} {rs : List Res} (S : Sep w0 w rs) (N : Nat) (hN : N ≤ 1000000) {g : Nat} (hg : w.heap.size = g) : Sep w0 (w.alloc (.cells (madeCells #[Value.bool false] N) 4)) (Res.row 4 1 (.slice (some ⟨g, 0, none⟩) N N) N (bools (List.replicate N false)) :: rs) := by
  subst hg
  have hz := toList_madeCells_one (Value.bool false) N
  have hsz : (madeCells #[Value.bool false] N).size = N := by rw [← Array.length_toList, hz]; simp
  refine S.add (r := Res.row 4 1 (.slice (some ⟨w.heap.size, 0, none⟩) N N) N (bools (List.replicate N false))) ⟨by simp [bools], .inr ⟨w.heap.size, N, _, rfl, Nat.zero_le _, heap_alloc_new w _, Nat.le_refl _, by unfold maxLen; omega, by omega, by rw [hz]; simp [bools]⟩⟩ ((Keeps.refl _ w).alloc _) (fun b hb => ?_)
  simp [Res.row, Value.ownBlock] at hb; omega

theorem addr0 (g j : Nat) : (⟨g, 0, none⟩ : Addr).add j = ⟨g, j, none⟩ := by unfold Addr.add; split <;> simp_all
theorem steps_len (ne : Nat → Nat) (pn : List Nat) : (steps ne pn).length = pn.length * 2 := by
  unfold steps
  induction pn with
  | nil => rfl
  | cons a l ih => simp only [List.flatMap_cons, List.length_append, ih]; simp; omega
theorem steps_top (ne : Nat → Nat) (p0 : List Nat) (v : Nat) : steps ne (p0 ++ [v]) = steps ne p0 ++ [.int .i64 (v : Int), .int .i64 ((ne v : Nat) : Int)] := by
  unfold steps; rw [List.flatMap_append]; simp
theorem steps_next (ne : Nat → Nat) (p0 : List Nat) (v z : Nat) (hv : v ∉ p0) : steps (upd ne v z) (p0 ++ [v]) = (steps ne (p0 ++ [v])).set (p0.length * 2 + 1) (.int .i64 (z : Int)) := by
  rw [steps_top, steps_top, steps_upd ne p0 v z hv, upd_same, List.set_append, if_neg (by rw [steps_len]; omega), steps_len, show p0.length * 2 + 1 - p0.length * 2 = 1 by omega]
  rfl

theorem own_takeS {w : World} {e : TypeId} {z g n cap : Nat} {xs : List Value} (h : w.ownsRow 0 e z (.slice (some ⟨g, 0, none⟩) n cap) n xs) (m : Nat) (hm : m ≤ n) : w.ownsRow 0 e z (.slice (some ⟨g, 0, none⟩) m cap) m (xs.take (m * z)) := by
  have hl : xs.length = n * z := h.1
  have hmz : m * z ≤ n * z := Nat.mul_le_mul_right z hm
  rcases h.2 with ⟨h', _⟩ | ⟨g', cap', cur, h', hb, hg, hnc, hcm, hcs, htake⟩
  · cases h'
  · cases h'
    refine ⟨by simp; omega, .inr ⟨g, cap, cur, rfl, hb, hg, by omega, hcm, hcs, ?_⟩⟩
    rw [← htake, List.take_take]; congr 1; omega
theorem own_capS {w : World} {e : TypeId} {z g n cap : Nat} {xs : List Value} (h : w.ownsRow 0 e z (.slice (some ⟨g, 0, none⟩) n cap) n xs) : n ≤ cap := by
  rcases h.2 with ⟨h', _⟩ | ⟨g', cap', cur, h', hb, hg, hnc, hcm, hcs, htake⟩
  · cases h'
  · cases h'; exact hnc
theorem steps_take (ne : Nat → Nat) (p0 : List Nat) (v : Nat) : (steps ne (p0 ++ [v])).take (p0.length * 2) = steps ne p0 := by
  rw [steps_top, List.take_left' (by rw [steps_len])]


/-- The code that begins with region n. -/
def isRegion (n : Nat) : Code → Bool
  | .region id _ _ => Nat.beq id n
  | _ => false
def fromRegion (n : Nat) : Code → Option Code
  | .seq a b => match isRegion n a with
    | true => some (.seq a b)
    | false => match fromRegion n a with
      | some c => some c
      | none => fromRegion n b
  | .block _ c => fromRegion n c
  | .loop c => fromRegion n c
  | .scope c => fromRegion n c
  | .cond _ a b => match fromRegion n a with
    | some c => some c
    | none => fromRegion n b
  | _ => none
noncomputable def code18 : Code := ((Yba.f16.body.bind (fromRegion 18)).getD .skip)
noncomputable def code24 : Code := ((Yba.f16.body.bind (fromRegion 24)).getD .skip)
/-- Where a round of the visit ends. -/
def Rnd (w0 : World) (bv bi bl bs bo bp gi gl go gc ga N k : Nat) (vs : List Value) (A : List (List Nat)) (rs : List Res) (m f : Nat) (wx : World) : Prop :=
  ∃ (vis : Nat) (ix lw cm : List Nat) (os : List Bool) (ne : Nat → Nat) (st pn : List Nat) (vst vpt : Value), mu (adjF A) N (fn ix) ne pn < m ∧ TS A N ix lw cm os ne st pn vis f ∧ (∀ r, r < k + 1 → ix.getD r 0 ≠ 0) ∧ Sep w0 wx (TarL bv bi bl bs bo bp gi gl go N vis ix lw os vst vpt st pn ne (Res.row 3 1 (.slice (some ⟨gc, 0, none⟩) N N) N (nats cm) :: Res.adj ga N vs A :: rs))

end Go.Proofs.Ybulkcdco
