import Derived.Test.YbulkcdkcKep
import Derived.Test.YbulkcdkcDcd
namespace Go.Proofs.Ybulkcdkc
open Go.RowKit

/-- What install decides by. -/
def wants (me : ByteArray) (kv : List (ByteArray × Nat)) (mp : Nat) (c : List ByteArray × List (List ByteArray)) (ds : List Dec) : Bool :=
  decide (0 < (run mp c ds).2.length) && kall (run mp c ds).1 (hol me kv (lastN maxU ds)) (run mp c ds).2

set_option maxHeartbeats 1600000 in
set_option maxRecDepth 100000 in
theorem install_any {w0 w : World} {bco bm B : Nat} {cs : Array Value} {vcar : Value} {ds : List Dec} {rs : List Res} {id : Int} {vm vl : Value} {mp dec : Nat} {ss : List ByteArray} {ps : List (Int × Value)} {L : List (List ByteArray)} {me : ByteArray} {kv : List (ByteArray × Nat)}
    (S : Sep w0 w (Res.blk bco cs 60 :: Res.row 69 8 vcar ds.length (ccells ds) :: rs)) (h11 : cs[11]? = some (.int .u64 dec)) (h12 : cs[12]? = some vcar)
    (hC : Co w bco bm vcar ds id vm vl mp) (hR : Rd w vm ss) (hV : VRow w vl ps L) (hP : Pm w B kv) (hme : w.cell? ⟨bm, 0, none⟩ = some (.string me)) (hpr : w.cell? ⟨bco, 9, none⟩ = some (.map (some B)))
    (hds : ds.length ≤ 400) (hss : ss.length ≤ 400) (hL : L.length ≤ 400) (hb : ∀ l ∈ (run mp (ss, L) ds).2, l.length ≤ 1000 ∧ ∀ x ∈ l, x.size ≤ maxLen)
    (hne : ∀ i, i < (run mp (ss, L) ds).2.length → (∀ j, j < i → quo ((run mp (ss, L) ds).2.getD j []) (kf (run mp (ss, L) ds).1 (hol me kv (lastN maxU ds)) ((run mp (ss, L) ds).2.getD j [])) = true) → 0 < ((run mp (ss, L) ds).2.getD i []).length) :
    Calls Yba.prog 10 #[.pointer (some ⟨bco, 0, none⟩)] w fun r w' => r = .returned (.tuple #[]) ∧ ((wants me kv mp (ss, L) ds = false ∧ Sep w0 w' (Res.blk bco cs 60 :: Res.row 69 8 vcar ds.length (ccells ds) :: rs)) ∨ (wants me kv mp (ss, L) ds = true ∧ ∃ vcar', Sep w0 w' (Res.blk bco ((cs.setIfInBounds 11 (.int .u64 (succU dec))).setIfInBounds 12 vcar') 60 :: Res.row 69 8 vcar' (ds.length + 1) (ccells (ds ++ [⟨succU dec, 5, ⟨#[]⟩, 0⟩])) :: rs))) := by
  have hlen := run_len mp ds (ss, L)
  have hah := ahead_any hC hR hV hds hss hL
  unfold wants
  obtain ⟨V, Lf, hrun⟩ : ∃ V Lf, run mp (ss, L) ds = (V, Lf) := ⟨_, _, rfl⟩
  rw [hrun] at hah hb hne hlen ⊢
  clear hrun
  go_enter Yba.func10, Yba.ntmps10
  go_wp2_with fail
  refine hah.mono ?_
  rintro r w1 ⟨id1, vm1, vl1, ps1, rfl, k1, hR1, hV1⟩
  have S1 := S.quiet k1
  have hR1 : Rd w1 vm1 V := hR1
  have hV1 : VRow w1 vl1 ps1 Lf := hV1
  obtain ⟨ma, mc, hvm⟩ := own_sliceB hR1
  obtain ⟨mn, hmn⟩ : ∃ mn, V.length = mn := ⟨_, rfl⟩
  obtain ⟨la, lc, hvl⟩ := own_sliceB hV1.row
  obtain ⟨ln, hln⟩ : ∃ ln, Lf.length = ln := ⟨_, rfl⟩
  rw [hmn] at hvm
  rw [hV1.len, hln] at hvl
  subst hvm
  subst hvl
  obtain ⟨ba, hba⟩ : ∃ ba, w1.heap.size = ba := ⟨_, rfl⟩
  have S2 := S1.blkAt #[.int .u64 id1, .slice ma mn mc, .slice la ln lc] 34 hba
  have k2 := k1.alloc (.cells #[.int .u64 id1, .slice ma mn mc, .slice la ln lc] 34)
  have kx := (Keeps.refl (fun _ => False) w1).alloc (.cells #[.int .u64 id1, .slice ma mn mc, .slice la ln lc] 34)
  have hR2 := hR1.keep kx
  have hV2 := hV1.keep kx
  clear S S1 hah hR1 hV1 k1 kx hR hV
  go_upto_region 1 with fail
  clear hba
  generalize (w1.alloc (.cells #[.int .u64 id1, .slice ma mn mc, .slice la ln lc] 34)) = w2 at *
  have hb2 : w2.heap[ba]? = _ := S2.head
  have c0 : w2.cell? ⟨ba, 0, none⟩ = some (.int .u64 id1) := cell_of_row w2 ba 0 _ 34 (0, 0) hb2
  have c1 : w2.cell? ⟨ba, 1, none⟩ = some (.slice ma mn mc) := cell_of_row w2 ba 1 _ 34 (0, 0) hb2
  have c2 : w2.cell? ⟨ba, 2, none⟩ = some (.slice la ln lc) := cell_of_row w2 ba 2 _ 34 (0, 0) hb2
  have HLN := Hid.mk' hln
  by_cases h0 : 0 < ln
  · have h0' : decide ((0 : Int) < (ln : Int)) = true := by simp; omega
    have kd := (Keeps.refl (fun _ => False) w2).drew
    have k2d := k2.drew
    have d0 : w2.drew.cell? ⟨ba, 0, none⟩ = some (.int .u64 id1) := kd.st c0
    have d1 : w2.drew.cell? ⟨ba, 1, none⟩ = some (.slice ma mn mc) := kd.st c1
    have d2 : w2.drew.cell? ⟨ba, 2, none⟩ = some (.slice la ln lc) := kd.st c2
    have hho := holding_any (hC.keep k2d) hds
    have HC := Hid.mk' hC
    have HNE := Hid.mk' hne
    have HB := Hid.mk' hb
    rw [hmn, hln] at hlen
    clear hC hne hb hb2
    refine wp_region_noPanic ?_
    go_region_held3 (fun w' => w'.cell? ⟨ba, 0, none⟩ = some (.int .u64 id1) ∧ w'.cell? ⟨ba, 1, none⟩ = some (.slice ma mn mc) ∧ w'.cell? ⟨ba, 2, none⟩ = some (.slice la ln lc)) (first | exact ⟨y0, y1, y2⟩ | exact ⟨z0, z1, z2⟩ | exact ⟨d0, d1, d2⟩ | assumption) ((first
      | (go_at_call 14; refine (kept_any (id := id1) hHc (hR2.keep k23) (hV2.keep k23) (by omega) (by omega) (by have := HLN.out; omega) HB.out HNE.out).mono ?_; rintro r w4 ⟨rfl, k4⟩; have k24 := k23.trans k4 (fun _ _ h => h); have y0 := k24.st c0; have y1 := k24.st c1; have y2 := k24.st c2)
      | (go_at_call 15; refine hho.mono ?_; rintro r w3 ⟨b1, b2, rfl, k3, g1, g2⟩; have k23 := kd.trans k3 (fun _ _ h => h); have kw3 := k2.trans k23 (fun _ _ h => h); have z0 := k23.st c0; have z1 := k23.st c1; have z2 := k23.st c2; have hHc : Hc w3 b1 b2 bco bm B me kv (lastN maxU ds) := ⟨g1, g2, kw3.st HC.out.m, kw3.st hme, kw3.st hpr, hP.keepF kw3⟩)))
    all_goals
      refine NoPanic.normal ?_
      have S4 := S2.tail.quiet k24
      have hlf : decide (0 < Lf.length) = true := decide_eq_true (by have := HLN.out; omega)
      obtain ⟨t, ht⟩ : ∃ t, kall V (hol me kv (lastN maxU ds)) Lf = t := ⟨_, rfl⟩
      have HT := Hid.mk' ht
      have HLF := Hid.mk' hlf
      rw [ht]
      clear ht hlf S2 k24 k23 kw3 k4 hHc y0 y1 y2 z0 z1 z2 d0 d1 d2 hho g1 g2 k3 c0 c1 c2
      cases t with
      | true =>
        go_wp2_with fail
        refine (decide_any S4 dec h11 h12 hds).mono ?_
        rintro r w5 ⟨v, vcar', rfl, S5⟩
        have HS := Hid.mk' S5
        clear S5 S4
        go_wp2
        go_end0
        exact ⟨rfl, .inr ⟨by rw [HLF.out, HT.out]; rfl, _, HS.out⟩⟩
      | false =>
        have HS := Hid.mk' S4
        clear S4
        go_wp2
        go_end0
        exact ⟨rfl, .inl ⟨by rw [HLF.out, HT.out]; rfl, HS.out⟩⟩
  · have h0' : decide ((0 : Int) < (ln : Int)) = false := by simp; omega
    go_quiet (fail)
    have S3 := S2.tail.quiet ((Keeps.refl (fun _ => False) w2).drewN nq)
    have HS := Hid.mk' S3
    clear S2 S3 c0 c1 c2
    have hlf : decide (0 < Lf.length) = false := decide_eq_false (by have := HLN.out; omega)
    have HLF := Hid.mk' hlf
    clear hlf
    go_wp2
    go_end0
    exact ⟨rfl, .inl ⟨by rw [HLF.out]; rfl, HS.out⟩⟩
end Go.Proofs.Ybulkcdkc
