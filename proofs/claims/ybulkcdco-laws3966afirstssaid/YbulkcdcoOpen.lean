import Derived.Test.YbulkcdcoMp
import Derived.ProofKit
import Derived.SizedLaws
import Derived.OpenShut
import Derived.ShutString
import Derived.ChangeOld
import Derived.Deep.Slices
import Derived.Below
namespace Go.Proofs.Ybulkcdco
open Go.ChangeShapes Go.WideShapes Go.ChangeAt Go.RowKit Go.Deep

theorem Yba.own : ownKnob Yba.prog.godebug = none := by kernel_rfl
theorem sz31 : Yba.prog.cellsOf 31 = 6 := by kernel_rfl
theorem sz5 : Yba.prog.cellsOf 5 = 1 := by kernel_rfl
theorem sz3 : Yba.prog.cellsOf 3 = 1 := by kernel_rfl

theorem nat_u8 {z : Int} (h : (Lit.int .u8 z).wf = true) : ∃ n : Nat, z = (n : Int) ∧ n < 256 := by
  simp [Lit.wf, show IntKind.u8.min = 0 from rfl, show IntKind.u8.max = 255 from rfl] at h
  exact ⟨z.toNat, by omega, by omega⟩
theorem nat_u16 {z : Int} (h : (Lit.int .u16 z).wf = true) : ∃ n : Nat, z = (n : Int) ∧ n < 65536 := by
  simp [Lit.wf, show IntKind.u16.min = 0 from rfl, show IntKind.u16.max = 65535 from rfl] at h
  exact ⟨z.toNat, by omega, by omega⟩
theorem add_pos (q : Addr) (j : Nat) : q.add (j + 1) = ⟨q.block, q.off + (j + 1), none⟩ := by simp [Addr.add]

/-- The steps that came in. -/
theorem open_steps {H : Type} {enc : TypeId × Value → H} {w : World} {base : Nat} {spare : Nat → Bool} {held : Bool} {fuel : Nat} {a : Option Addr} {len cap : Nat} {x : DataW H × List MemPlace}
    (h : DataW.trod enc Yba.prog w base spare held fuel 22 [.slice a len cap] = some x) :
    ∀ i, i < len → ∃ a0, a = some a0 ∧ ∃ (k p lo hi ef : Nat) (ln : Int), k < 256 ∧ p < 256 ∧ lo < 65536 ∧ hi < 65536 ∧ ef < 256 ∧ w.cell? (a0.add (i * 6)) = some (.int .u8 k) ∧ w.cell? ⟨(a0.add (i * 6)).block, (a0.add (i * 6)).off + 1, none⟩ = some (.int .u8 p) ∧ w.cell? ⟨(a0.add (i * 6)).block, (a0.add (i * 6)).off + 2, none⟩ = some (.int .u16 lo) ∧ w.cell? ⟨(a0.add (i * 6)).block, (a0.add (i * 6)).off + 3, none⟩ = some (.int .u16 hi) ∧ w.cell? ⟨(a0.add (i * 6)).block, (a0.add (i * 6)).off + 4, none⟩ = some (.int .u8 ef) ∧ w.cell? ⟨(a0.add (i * 6)).block, (a0.add (i * 6)).off + 5, none⟩ = some (.int .i64 ln) := by
  intro i hi
  rcases open_slice Yba.underlying22 h with ⟨hcs, _⟩ | ⟨a0, len', cap', m, n, D, Pl, hcs, _, hl, hm, hmm, _, hx⟩
  · simp at hcs; omega
  · simp only [List.cons.injEq, Value.slice.injEq, and_true] at hcs
    obtain ⟨rfl, rfl, rfl⟩ := hcs
    refine ⟨a0, rfl, ?_⟩
    obtain ⟨cs', hc', ht'⟩ := hx i (by rw [hmm]; split <;> omega)
    rw [sz31] at hc'
    obtain ⟨_, hlen, hcell⟩ := World.cells?_some hc'
    generalize a0.add (i * 6) = q at *
    obtain ⟨xs, n', _, _, _, hxl, hf⟩ := DataW.trod_struct Yba.underlying31 ht'
    match cs', hlen with
    | [c0, c1, c2, c3, c4, c5], _ =>
      match xs, hxl with
      | [y0, y1, y2, y3, y4, y5], _ =>
        have g0 : DataW.trod enc Yba.prog w base spare held n' 5 [c0] = some y0 := by have := hf 0 _ rfl; simpa [sz5] using this
        have g1 : DataW.trod enc Yba.prog w base spare held n' 5 [c1] = some y1 := by have := hf 1 _ rfl; simpa [sz5] using this
        have g2 : DataW.trod enc Yba.prog w base spare held n' 29 [c2] = some y2 := by have := hf 2 _ rfl; simpa [sz29] using this
        have g3 : DataW.trod enc Yba.prog w base spare held n' 29 [c3] = some y3 := by have := hf 3 _ rfl; simpa [sz29] using this
        have g4 : DataW.trod enc Yba.prog w base spare held n' 5 [c4] = some y4 := by have := hf 4 _ rfl; simpa [sz5] using this
        have g5 : DataW.trod enc Yba.prog w base spare held n' 3 [c5] = some y5 := by have := hf 5 _ rfl; simpa [sz3] using this
        obtain ⟨z0, e0, _, w0⟩ := DataW.trod_int Yba.underlying5 g0
        obtain ⟨z1, e1, _, w1⟩ := DataW.trod_int Yba.underlying5 g1
        obtain ⟨z2, e2, _, w2⟩ := DataW.trod_int Yba.underlying29 g2
        obtain ⟨z3, e3, _, w3⟩ := DataW.trod_int Yba.underlying29 g3
        obtain ⟨z4, e4, _, w4⟩ := DataW.trod_int Yba.underlying5 g4
        obtain ⟨z5, e5, _, w5⟩ := DataW.trod_int Yba.underlying3 g5
        simp at e0 e1 e2 e3 e4 e5
        subst e0 e1 e2 e3 e4 e5
        obtain ⟨k, rfl, hk⟩ := nat_u8 w0
        obtain ⟨p, rfl, hp⟩ := nat_u8 w1
        obtain ⟨lo, rfl, hlo⟩ := nat_u16 w2
        obtain ⟨hi', rfl, hhi⟩ := nat_u16 w3
        obtain ⟨ef, rfl, hef⟩ := nat_u8 w4
        have r0 := hcell 0 (by omega)
        have r1 := hcell 1 (by omega)
        have r2 := hcell 2 (by omega)
        have r3 := hcell 3 (by omega)
        have r4 := hcell 4 (by omega)
        have r5 := hcell 5 (by omega)
        rw [add_pos q 0] at r1
        rw [add_pos q 1] at r2
        rw [add_pos q 2] at r3
        rw [add_pos q 3] at r4
        rw [add_pos q 4] at r5
        exact ⟨k, p, lo, hi', ef, z5, hk, hp, hlo, hhi, hef, by simpa [Addr.add] using r0, by simpa using r1, by simpa using r2, by simpa using r3, by simpa using r4, by simpa using r5⟩
end Go.Proofs.Ybulkcdco
