import Derived.Test.YbulkcdkcLa5
import Derived.ProofKit
import Derived.SizedLaws
import Derived.OpenShut
import Derived.ShutString
import Derived.ChangeOld
import Derived.Deep.Slices
import Derived.Below
namespace Go.Proofs.Ybulkcdkc
open Go.ChangeShapes Go.WideShapes Go.ChangeAt Go.RowKit Go.Deep

theorem Yba.own : ownKnob Yba.prog.godebug = none := by kernel_rfl
theorem z64 : Yba.prog.cellsOf 64 = 4 := by kernel_rfl
theorem z5 : Yba.prog.cellsOf 5 = 1 := by kernel_rfl
theorem z23 : Yba.prog.cellsOf 23 = 1 := by kernel_rfl

theorem nat_u8 {z : Int} (h : (Lit.int .u8 z).wf = true) : ∃ n : Nat, z = (n : Int) ∧ n < 256 := by
  simp [Lit.wf, show IntKind.u8.min = 0 from rfl, show IntKind.u8.max = 255 from rfl] at h
  exact ⟨z.toNat, by omega, by omega⟩
theorem nat_u64 {z : Int} (h : (Lit.int .u64 z).wf = true) : ∃ n : Nat, z = (n : Int) ∧ n < 18446744073709551616 := by
  simp [Lit.wf, show IntKind.u64.min = 0 from rfl, show IntKind.u64.max = 18446744073709551615 from rfl] at h
  exact ⟨z.toNat, by omega, by omega⟩
theorem add_pos (q : Addr) (j : Nat) : q.add (j + 1) = ⟨q.block, q.off + (j + 1), none⟩ := by simp [Addr.add]
theorem list_of {α : Type} (r0 : α) {n : Nat} {P : Nat → α → Prop} (h : ∀ i, i < n → ∃ p, P i p) : ∃ R : List α, R.length = n ∧ ∀ i, i < n → P i (R.getD i r0) := by
  induction n with
  | zero => exact ⟨[], rfl, fun i hi => by omega⟩
  | succ n ih =>
    obtain ⟨R, hl, hR⟩ := ih (fun i hi => h i (by omega))
    obtain ⟨p, hp⟩ := h n (by omega)
    refine ⟨R ++ [p], by simp [hl], fun i hi => ?_⟩
    by_cases hin : i < n
    · have := hR i hin
      rwa [List.getD_eq_getElem?_getD, List.getElem?_append_left (by omega), ← List.getD_eq_getElem?_getD]
    · obtain rfl : i = n := by omega
      rw [List.getD_eq_getElem?_getD, List.getElem?_append_right (by omega), hl]
      simpa using hp

/-- The masks that came in. -/
theorem open_masks {H : Type} {enc : TypeId × Value → H} {w : World} {base : Nat} {spare : Nat → Bool} {held : Bool} {fuel : Nat} {a : Option Addr} {len cap : Nat} {x : DataW H × List MemPlace}
    (h : DataW.trod enc Yba.prog w base spare held fuel 22 [.slice a len cap] = some x) :
    ∃ ms : List Nat, ms.length = len ∧ MkAt w a ms := by
  have key : ∀ i, i < len → ∃ p : Nat, ∃ a0, a = some a0 ∧ w.cell? (a0.add i) = some (.int .u8 p) := by
    intro i hi
    rcases open_slice Yba.underlying22 h with ⟨hcs, _⟩ | ⟨a0, len', cap', m, n, D, Pl, hcs, _, hl, hm, hmm, _, hx⟩
    · simp at hcs; omega
    · simp only [List.cons.injEq, Value.slice.injEq, and_true] at hcs
      obtain ⟨rfl, rfl, rfl⟩ := hcs
      obtain ⟨cs', hc', ht'⟩ := hx i (by rw [hmm]; split <;> omega)
      rw [z5] at hc'
      obtain ⟨_, hlen, hcell⟩ := World.cells?_some hc'
      match cs', hlen with
      | [c0], _ =>
        obtain ⟨z0, e0, _, w0⟩ := DataW.trod_int Yba.underlying5 ht'
        simp at e0
        subst e0
        obtain ⟨k, rfl, hk⟩ := nat_u8 w0
        have r0 := hcell 0 (by omega)
        exact ⟨k, a0, rfl, by simpa [Addr.add] using r0⟩
  obtain ⟨R, hl, hR⟩ := list_of 0 key
  exact ⟨R, hl, fun i hi => hR i (by omega)⟩

/-- The counts that came in. -/
theorem open_procs {H : Type} {enc : TypeId × Value → H} {w : World} {base : Nat} {spare : Nat → Bool} {held : Bool} {fuel : Nat} {a : Option Addr} {len cap : Nat} {x : DataW H × List MemPlace}
    (h : DataW.trod enc Yba.prog w base spare held fuel 24 [.slice a len cap] = some x) :
    ∃ ms : List Nat, ms.length = len ∧ PrAt w a ms := by
  have key : ∀ i, i < len → ∃ p : Nat, ∃ a0, a = some a0 ∧ w.cell? (a0.add i) = some (.int .u64 p) := by
    intro i hi
    rcases open_slice Yba.underlying24 h with ⟨hcs, _⟩ | ⟨a0, len', cap', m, n, D, Pl, hcs, _, hl, hm, hmm, _, hx⟩
    · simp at hcs; omega
    · simp only [List.cons.injEq, Value.slice.injEq, and_true] at hcs
      obtain ⟨rfl, rfl, rfl⟩ := hcs
      obtain ⟨cs', hc', ht'⟩ := hx i (by rw [hmm]; split <;> omega)
      rw [z23] at hc'
      obtain ⟨_, hlen, hcell⟩ := World.cells?_some hc'
      match cs', hlen with
      | [c0], _ =>
        obtain ⟨z0, e0, _, w0⟩ := DataW.trod_int Yba.underlying23 ht'
        simp at e0
        subst e0
        obtain ⟨k, rfl, hk⟩ := nat_u64 w0
        have r0 := hcell 0 (by omega)
        exact ⟨k, a0, rfl, by simpa [Addr.add] using r0⟩
  obtain ⟨R, hl, hR⟩ := list_of 0 key
  exact ⟨R, hl, fun i hi => hR i (by omega)⟩

set_option maxRecDepth 100000 in
/-- The steps that came in. -/
theorem open_steps {H : Type} {enc : TypeId × Value → H} {w : World} {base : Nat} {spare : Nat → Bool} {held : Bool} {fuel : Nat} {a : Option Addr} {len cap : Nat} {x : DataW H × List MemPlace}
    (h : DataW.trod enc Yba.prog w base spare held fuel 25 [.slice a len cap] = some x) :
    ∃ sts : List (Nat × Nat × Nat × Nat), sts.length = len ∧ StAt w a sts := by
  have key : ∀ i, i < len → ∃ p : Nat × Nat × Nat × Nat, ∃ a0, a = some a0 ∧ p.1 < 256 ∧ p.2.1 < 256 ∧ w.cell? (a0.add (i * 4)) = some (.int .u8 p.1) ∧ w.cell? ⟨(a0.add (i * 4)).block, (a0.add (i * 4)).off + 1, none⟩ = some (.int .u8 p.2.1) ∧ w.cell? ⟨(a0.add (i * 4)).block, (a0.add (i * 4)).off + 2, none⟩ = some (.int .u64 p.2.2.1) ∧ w.cell? ⟨(a0.add (i * 4)).block, (a0.add (i * 4)).off + 3, none⟩ = some (.int .u64 p.2.2.2) := by
    intro i hi
    rcases open_slice Yba.underlying25 h with ⟨hcs, _⟩ | ⟨a0, len', cap', m, n, D, Pl, hcs, _, hl, hm, hmm, _, hx⟩
    · simp at hcs; omega
    · simp only [List.cons.injEq, Value.slice.injEq, and_true] at hcs
      obtain ⟨rfl, rfl, rfl⟩ := hcs
      obtain ⟨cs', hc', ht'⟩ := hx i (by rw [hmm]; split <;> omega)
      rw [z64] at hc'
      obtain ⟨_, hlen, hcell⟩ := World.cells?_some hc'
      obtain ⟨q, hq⟩ : ∃ q, a0.add (i * 4) = q := ⟨_, rfl⟩
      rw [hq] at hcell
      obtain ⟨xs, n', _, _, _, hxl, hf⟩ := DataW.trod_struct Yba.underlying64 ht'
      match cs', hlen with
      | [c0, c1, c2, c3], _ =>
        match xs, hxl with
        | [y0, y1, y2, y3], _ =>
          have g0 : DataW.trod enc Yba.prog w base spare held n' 5 [c0] = some y0 := by have := hf 0 _ rfl; simpa [z5] using this
          have g1 : DataW.trod enc Yba.prog w base spare held n' 5 [c1] = some y1 := by have := hf 1 _ rfl; simpa [z5] using this
          have g2 : DataW.trod enc Yba.prog w base spare held n' 23 [c2] = some y2 := by have := hf 2 _ rfl; simpa [z23] using this
          have g3 : DataW.trod enc Yba.prog w base spare held n' 23 [c3] = some y3 := by have := hf 3 _ rfl; simpa [z23] using this
          obtain ⟨z0, e0, _, w0⟩ := DataW.trod_int Yba.underlying5 g0
          obtain ⟨z1, e1, _, w1⟩ := DataW.trod_int Yba.underlying5 g1
          obtain ⟨z2, e2, _, w2⟩ := DataW.trod_int Yba.underlying23 g2
          obtain ⟨z3, e3, _, w3⟩ := DataW.trod_int Yba.underlying23 g3
          simp at e0 e1 e2 e3
          subst e0 e1 e2 e3
          obtain ⟨k, rfl, hk⟩ := nat_u8 w0
          obtain ⟨p, rfl, hp⟩ := nat_u8 w1
          obtain ⟨num, rfl, _⟩ := nat_u64 w2
          obtain ⟨sq, rfl, _⟩ := nat_u64 w3
          have r0 := hcell 0 (by omega)
          have r1 := hcell 1 (by omega)
          have r2 := hcell 2 (by omega)
          have r3 := hcell 3 (by omega)
          rw [add_pos q 0] at r1
          rw [add_pos q 1] at r2
          rw [add_pos q 2] at r3
          exact ⟨(k, p, num, sq), a0, rfl, hk, hp, by rw [hq]; simpa [Addr.add] using r0, by rw [hq]; simpa using r1, by rw [hq]; simpa using r2, by rw [hq]; simpa using r3⟩
  obtain ⟨R, hl, hR⟩ := list_of s00 key
  exact ⟨R, hl, fun i hi => hR i (by omega)⟩
end Go.Proofs.Ybulkcdkc
