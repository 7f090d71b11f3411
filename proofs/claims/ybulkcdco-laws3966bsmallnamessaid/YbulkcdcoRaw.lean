import Derived.Test.YbulkcdcoCyc
import Derived.Test.YbulkcdcoCpy
import Derived.Test.YbulkcdcoMod
import Derived.Test.YbulkcdcoSame
namespace Go.Proofs.Ybulkcdco
open Go.RowKit

theorem RolesAt.keep {w w' : World} {a : Option Addr} {R : List (Int × ByteArray × ByteArray)} (h : RolesAt w a R) (hk : Keeps (fun _ => False) w w') : RolesAt w' a R := by
  have st : ∀ {p : Addr} {v : Value}, w.cell? p = some v → w'.cell? p = some v := fun {p v} h => (hk.cell (World.block_lt_of_cell? w _ h) (fun h => h)).trans h
  intro i hi
  obtain ⟨a0, ha, c0, c1, c2⟩ := h i hi
  exact ⟨a0, ha, st c0, st c1, st c2⟩
theorem snd_get (R : List (Int × ByteArray × ByteArray)) (i : Nat) : (R.map Prod.snd).getD i (⟨#[]⟩, ⟨#[]⟩) = (R.getD i r0).2 := by
  simp only [List.getD_eq_getElem?_getD, List.getElem?_map]
  cases R[i]? <;> rfl
theorem RolesAt.names {w : World} {a : Option Addr} {R : List (Int × ByteArray × ByteArray)} (h : RolesAt w a R) : ∀ i, i < R.length → ∃ a0, a = some a0 ∧ w.cell? ⟨(a0.add (i * 3)).block, (a0.add (i * 3)).off + 1, none⟩ = some (.string ((R.map Prod.snd).getD i (⟨#[]⟩, ⟨#[]⟩)).1) ∧ w.cell? ⟨(a0.add (i * 3)).block, (a0.add (i * 3)).off + 2, none⟩ = some (.string ((R.map Prod.snd).getD i (⟨#[]⟩, ⟨#[]⟩)).2) := by
  intro i hi
  obtain ⟨a0, ha, c0, c1, c2⟩ := h i hi
  rw [snd_get]
  exact ⟨a0, ha, c1, c2⟩

/-- The end of both laws: the model, then the comparison. -/
theorem tail_any {w0 w : World} {v : Value} {a : Option Addr} {len cap : Nat} {R : List (Int × ByteArray × ByteArray)} {rs : List Res} (S : Sep w0 w (Res.row 3 1 v (mC (eOf (R.map Prod.snd)) len).length (nats (mC (eOf (R.map Prod.snd)) len)) :: rs)) (hR : R.length = len) (hlen : len ≤ 1024) (hz : RolesAt w a R) :
    Calls Yba.prog 13 #[.slice a len cap] w fun r w' => ∃ v', r = .returned v' ∧ Calls Yba.prog 12 #[v, v'] w' fun r w2 => r = .returned (.bool true) ∧ Keeps (fun _ => False) w0 w2 := by
  refine (model_any w a len cap (R.map Prod.snd) (by simp [hR]) hlen (fun i hi => hz.names i (by omega))).mono ?_
  rintro r w' ⟨v', rfl, S'⟩
  refine ⟨v', rfl, ?_⟩
  have h1 : w.ownsRow 0 3 1 v _ _ := S.head
  have hl := mC_len (eOf (R.map Prod.snd)) len
  refine (same_any v v' _ (by omega) (S'.base.own h1 (fun _ _ h => h)) S'.head).mono ?_
  rintro r w2 ⟨rfl, hk⟩
  exact ⟨rfl, (S.base.trans S'.base (fun _ _ h => h)).trans hk (fun _ _ h => h)⟩

set_option maxHeartbeats 3200000 in
theorem raw_any (W : World) (a : Option Addr) (len cap : Nat) (R : List (Int × ByteArray × ByteArray)) (hR : R.length = len) (hlen : len ≤ 1024) (hok : ∀ p ∈ R, (Lit.int .i64 p.1).wf = true ∧ p.2.1.size ≤ maxLen ∧ p.2.2.size ≤ maxLen) (hz : RolesAt W a R) :
    Calls Yba.prog 5 #[.slice a len cap] W fun e w' => e = .returned (.bool true) ∧ Keeps (fun _ => False) W w' := by
  have hmk := make_run (P := Yba.prog) 48 53 (.agg #[.int .i64 0, .string ⟨#[]⟩, .string ⟨#[]⟩]) #[.int .i64 0, .string ⟨#[]⟩, .string ⟨#[]⟩] 3 40 Yba.underlying48 Yba.info53 rfl len (by omega) (by omega)
  have S0 : Sep W W [] := Sep.nil (Keeps.refl _ W)
  obtain ⟨g, hg⟩ : ∃ g, W.heap.size = g := ⟨_, rfl⟩
  have S1 := S0.madeAt 53 (madeCells #[.int .i64 0, .string ⟨#[]⟩, .string ⟨#[]⟩] (len * 3)) 3 len (size_madeCells _ _) (by omega) hg
  rw [← rls_rep] at S1
  have x0 : decide ((1024 : Int) < (len : Int)) = false := by simp; omega
  clear S0
  go_enter Yba.func5, Yba.ntmps5
  go_upto_region 4 with fail
  generalize (W.alloc (.cells (madeCells #[.int .i64 0, .string ⟨#[]⟩, .string ⟨#[]⟩] (len * 3)) 53)) = w1 at *
  obtain ⟨w2, hcp, S2⟩ := copy_any (c := cap) S1 hR (hz.keep S1.base)
  clear S1 hmk hg
  go_wp2_with (at_builtin; refine Lib.wpList_copy_run _ rfl (.tmp 12) (.tmp 13) 48 48 rfl _ _ rfl rfl (hcp _) ?_)
  refine (cyc_any S2 hR hlen (fun p hp => (hok p hp).2)).mono ?_
  rintro r w3 ⟨v, rfl, S3⟩
  clear S2 hcp
  go_wp2
  go_loopw [5] (fun vi wx => ∃ i : Nat, i ≤ len ∧ vi = .int .i64 i ∧ Sep W wx [Res.row 3 1 v (mC (eOf (R.map Prod.snd)) len).length (nats (mC (eOf (R.map Prod.snd)) len)), Res.row 53 3 (.slice (some ⟨g, 0, none⟩) len len) len (rls R)]) (fun vi _ => len - (intOf vi).toNat)
  case atStart => exact ⟨0, by omega, rfl, S3⟩
  case round =>
    clear S3
    obtain ⟨i, hi, rfl, S⟩ := hrel
    by_cases hlt : i < len
    · have y0 : (i : Int) < (len : Int) := by omega
      have y1 : (0 : Int) ≤ (i : Int) := by omega
      have hz' := hz.keep S.base
      obtain ⟨a0, rfl, z0, z1, z2⟩ := hz' i (by omega)
      have hrow : wr.ownsRow 0 53 3 (.slice (some ⟨g, 0, none⟩) len len) len (rls R) := S.tail.head
      obtain ⟨g0, g1, g2⟩ := rls_get R i (by omega)
      obtain ⟨l, m, r', hRi⟩ : ∃ l m r', R.getD i r0 = (l, m, r') := ⟨_, _, _, rfl⟩
      have hRm : (l, m, r') ∈ R := by rw [← hRi]; simp [show i < R.length by omega]
      rw [hRi] at z0 z1 z2 g0 g1 g2
      have c0 : wr.cell? ⟨g, i * 3, none⟩ = some (.int .i64 l) := own_cell hrow g0
      have c1 : wr.cell? ⟨g, i * 3 + 1, none⟩ = some (.string m) := own_cell hrow g1
      have c2 : wr.cell? ⟨g, i * 3 + 2, none⟩ = some (.string r') := own_cell hrow g2
      obtain ⟨hl, hs1, hs2⟩ := hok _ hRm
      have heq : ∀ w : World, (Op.equalIn 10000 53 (.agg #[.int .i64 l, .string m, .string r']) (.agg #[.int .i64 l, .string m, .string r'])).run Yba.prog w = .ok true w := fun w => eq53 w l m r' hl hs1 hs2
      clear hz' hrow g0 g1 g2 hRi hRm hl hs1 hs2 hok
      go_upto_region 9 with fail
      go_quiet (fail)
      have S4 := S.quiet ((Keeps.refl (fun _ => False) wr).drewN nq)
      clear S c0 c1 c2 z0 z1 z2 heq
      generalize wr.drewN nq = w4 at *
      go_wp2
      go_roundw
      case rel => exact ⟨i + 1, by omega, by go_num, S4⟩
      case measure => simp [intOf]; omega
    · have hz' := hz.keep S.base
      have hc := tail_any (cap := cap) S hR hlen hz'
      clear hz' hz S hok
      go_wp2_with fail
      refine hc.mono ?_
      rintro r w5 ⟨v', rfl, hc2⟩
      clear hc
      go_wp2_with fail
      refine hc2.mono ?_
      rintro r w6 ⟨rfl, hk⟩
      clear hc2
      go_wp2
      go_ret
      exact ⟨rfl, hk⟩
end Go.Proofs.Ybulkcdco
