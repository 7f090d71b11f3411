import Derived.Test.YbulkcdayFillAll
import Derived.Test.YbulkcdayKey
import Derived.Test.YbulkcdayEq
namespace Go.Proofs.Ybulkcday
open Go.RowKit

def oks (seq : List (List Value)) : List Value := seq.map fun k => .string (unS k)
theorem oks_one (seq : List (List Value)) : ∀ u ∈ oks seq, u.oneCell' = true := by
  intro u hu; simp only [oks, List.mem_map] at hu; obtain ⟨k, _, rfl⟩ := hu; rfl
theorem oks_append (a b : List (List Value)) : oks (a ++ b) = oks a ++ oks b := by simp [oks]
theorem oks_length (a : List (List Value)) : (oks a).length = a.length := by simp [oks]

/-- A child under building: k keys. -/
structure Inner (w0 w : World) (inn : Bool) (pc : Nat) (ct ce ck : Value) (cks : List (List Value)) (G : List Value) (vO vG : Value) (seq : List (List Value)) (gs0 : List Value) (rest : List Res) : Prop where
  sep : Sep w0 w (Res.w pc ct ce ck cks.flatten (ivals (endsF 0 cks)) G :: Res.row 9 vO (oks (seq ++ cks)) :: Res.row 24 vG (gs0 ++ G) :: rest)
  pst : ∀ k ∈ cks, IsStr k ∧ 0 < k.length ∧ k.length ≤ 100
  lf0 : inn = false → ck = .slice none 0 0 ∧ G = []
  ptr : ∀ u ∈ G, ∃ a, u = Value.pointer (some a)

/-- The state behind the rounds up to j. -/
structure Base (w0 w : World) (inn : Bool) (n j : Nat) (pp gc gn : Nat) (kids : List K) (pks : List (List Value)) (vt ve vO vG : Value) : Prop where
  sep : Sep w0 w (Res.row 9 vO (oks (inord (kids.map K.ks) pks)) :: Res.row 24 vG (allKids kids) :: Res.w pp vt ve (.slice none 0 0) pks.flatten (ivals (endsF 0 pks)) [] :: Res.row 24 (.slice (some ⟨gc, 0, none⟩) n n) (kids.map K.ptr ++ List.replicate (n - j) (.pointer none)) :: Res.row 3 (.slice (some ⟨gn, 0, none⟩) n n) (ivals (counts kids) ++ List.replicate (n - j) (.int .i64 0)) :: kids.map Res.k)
  kl : kids.length = j
  pl : pks.length = min j (n - 1)
  pst : ∀ k ∈ pks, IsStr k ∧ 0 < k.length ∧ k.length ≤ 100
  kst : ∀ c ∈ kids, ∀ k ∈ c.ks, IsStr k
  cnt : ∀ c ∈ kids, 29 ≤ c.ks.length ∧ c.ks.length ≤ 33
  lf : ∀ c ∈ kids, Lf inn c
  ptr : ∀ u ∈ allKids kids, ∃ a, u = Value.pointer (some a)
end Go.Proofs.Ybulkcday
