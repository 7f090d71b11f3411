import Derived.Test.YbulkcdcoOb
import Derived.Maps.Own
import Derived.DeepKeys4
namespace Go.Proofs.Ybulkcdco
open Go.RowKit

theorem Yba.laidOut : laidOutB Yba.prog = true := by kernel_rfl
theorem law37 : WideMaps.KeyLaw Yba.prog 37 :=
  deep_law_laid Yba.laidOut (m := 3) (by omega) (of_decide_eq_true (by kernel_rfl)) (by kernel_rfl) (by kernel_rfl)
theorem kt37 : Yba.prog.keyType 37 = true := by kernel_rfl
theorem sz37 : Yba.prog.cellsOf 37 = 5 := by kernel_rfl
theorem sz35 : Yba.prog.cellsOf 35 = 3 := by kernel_rfl
theorem sz32 : Yba.prog.cellsOf 32 = 1 := by kernel_rfl
theorem sz33 : Yba.prog.cellsOf 33 = 1 := by kernel_rfl
theorem sz9 : Yba.prog.cellsOf 9 = 1 := by kernel_rfl
theorem sz29 : Yba.prog.cellsOf 29 = 1 := by kernel_rfl
theorem tys : ∃ m, Yba.prog.types.size + 1 = m + 1 + 1 + 1 := ⟨Yba.prog.types.size - 2, by have : 2 ≤ Yba.prog.types.size := of_decide_eq_true (by kernel_rfl); omega⟩

theorem key37 (o : Ob) (h : o.Ok) : ∃ l, keyOf Yba.prog 37 o.v = some l := by
  have h1 := h.k
  have h2 := h.p
  have h3 := h.r
  have h4 := h.lo
  have h5 := h.hi
  have m1 : o.k.size ≤ maxLen := by unfold maxLen; omega
  have m2 : o.p.size ≤ maxLen := by unfold maxLen; omega
  have m3 : o.r.size ≤ maxLen := by unfold maxLen; omega
  have w1 : (Lit.int .u16 (o.lo : Int)).wf = true := by simp [Lit.wf, show IntKind.u16.min = 0 from rfl, show IntKind.u16.max = 65535 from rfl]; omega
  have w2 : (Lit.int .u16 (o.hi : Int)).wf = true := by simp [Lit.wf, show IntKind.u16.min = 0 from rfl, show IntKind.u16.max = 65535 from rfl]; omega
  obtain ⟨m, hm⟩ := tys
  unfold keyOf
  simp only [Yba.underlying37, kt37, Ob.v, Value.formed, sz37, hm]
  rw [if_pos (by rfl)]
  simp [Program.keyLits, Yba.underlying37, Yba.underlying35, Yba.underlying32, Yba.underlying33, Yba.underlying9, Yba.underlying29, Value.cells, sz37, sz35, sz32, sz33, sz9, sz29, m1, m2, m3, w1, w2]
  rw [if_pos (by decide)]
  exact ⟨_, rfl⟩
end Go.Proofs.Ybulkcdco
