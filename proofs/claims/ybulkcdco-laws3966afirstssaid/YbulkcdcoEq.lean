import Derived.Test.YbulkcdcoAdd
namespace Go.Proofs.Ybulkcdco
open Go.RowKit

theorem eq37 (w0 : World) (a b : Ob) (ha : a.Ok) (hb : b.Ok) : ∃ r : Bool, (∀ w : World, (Op.equalIn 10000 37 (.agg #[.string a.k, .string a.p, .string a.r, .int .u16 (a.lo : Int), .int .u16 (a.hi : Int)]) (.agg #[.string b.k, .string b.p, .string b.r, .int .u16 (b.lo : Int), .int .u16 (b.hi : Int)])).run Yba.prog w = .ok r w) ∧ (r = true ↔ a = b) := by
  obtain ⟨la, hla⟩ := key37 a ha
  obtain ⟨lb, hlb⟩ := key37 b hb
  have key : ∀ w : World, ∃ r : Bool, (Op.equalIn 10000 37 a.v b.v).run Yba.prog w = .ok r w ∧ (r = true ↔ la = lb) := fun w =>
    run_equal_deep w (m := 3) (by omega) (by kernel_rfl) (by kernel_rfl) hla hlb
  obtain ⟨r, hr, hri⟩ := key w0
  refine ⟨r, fun w => ?_, hri.trans ⟨fun h => ?_, fun h => ?_⟩⟩
  · obtain ⟨r', hr', hri'⟩ := key w
    have : r' = r := by
      cases r <;> cases r' <;> simp_all
    rw [← this]; exact hr'
  · subst h
    exact Ob.v_inj (law37.inj hla hlb)
  · subst h
    exact Option.some.inj (hla.symm.trans hlb)
theorem eq37_same (w : World) (a : Ob) (ha : a.Ok) : (Op.equalIn 10000 37 (.agg #[.string a.k, .string a.p, .string a.r, .int .u16 (a.lo : Int), .int .u16 (a.hi : Int)]) (.agg #[.string a.k, .string a.p, .string a.r, .int .u16 (a.lo : Int), .int .u16 (a.hi : Int)])).run Yba.prog w = .ok true w := by
  obtain ⟨r, hr, hri⟩ := eq37 w a a ha ha
  rw [hr w, hri.2 rfl]
end Go.Proofs.Ybulkcdco
