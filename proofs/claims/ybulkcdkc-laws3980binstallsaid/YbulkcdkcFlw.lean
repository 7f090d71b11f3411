import Derived.Test.YbulkcdkcFol
namespace Go.Proofs.Ybulkcdkc
open Go.RowKit

theorem own_base0 {w : World} {b : Nat} {e : TypeId} {z : Nat} {v : Value} {n : Nat} {xs : List Value} (h : w.ownsRow b e z v n xs) : w.ownsRow 0 e z v n xs := by
  refine ⟨h.1, ?_⟩
  rcases h.2 with h' | ⟨g, cap, cur, h1, _, h2⟩
  · exact .inl h'
  · exact .inr ⟨g, cap, cur, h1, Nat.zero_le _, h2⟩

set_option maxHeartbeats 3200000 in
set_option maxRecDepth 100000 in
theorem follow_any {w : World} {bc : Nat} {vm vl : Value} {ss : List ByteArray} {ps : List (Int × Value)} {L : List (List ByteArray)} (id : Int) (num sq inc k : Nat) (fr : ByteArray) (hc : w.heap[bc]? = some (.cells #[.int .u64 id, vm, vl] 34 (0, 0))) (hR : Rd w vm ss) (hV : VRow w vl ps L) (hl : ss.length ≤ 1000) (hL : L.length ≤ 1000) :
    Calls Yba.prog 17 #[.pointer (some ⟨bc, 0, none⟩), .agg #[.int .u64 num, .int .u8 k, .string fr, .int .u64 sq, .int .u64 inc]] w fun r w' => r = .returned (.tuple #[]) ∧ ∃ (id' : Int) (vm' vl' : Value) (ps' : List (Int × Value)), Keeps (fun b => b = bc) w w' ∧ w'.heap[bc]? = some (.cells #[.int .u64 id', vm', vl'] 34 (0, 0)) ∧ Rd w' vm' (afterL k fr ss) ∧ VRow w' vl' ps' (leftL k ss L) := by
  obtain ⟨i31, hi31, hz31, hs31, hb31⟩ := info_parts Yba.info31
  obtain ⟨b3, hb3⟩ : ∃ b3, w.heap.size = b3 := ⟨_, rfl⟩
  have ka := (Keeps.refl (fun _ => False) w).alloc (.cells #[.int .u64 num, .int .u8 k, .string fr, .int .u64 sq, .int .u64 inc] 66)
  have hc1 : (w.alloc (.cells #[.int .u64 num, .int .u8 k, .string fr, .int .u64 sq, .int .u64 inc] 66)).heap[bc]? = some (.cells #[.int .u64 id, vm, vl] 34 (0, 0)) := (ka.block bc (Array.getElem?_eq_some_iff.1 hc).1 (fun h => h)).trans hc
  have hd1 : (w.alloc (.cells #[.int .u64 num, .int .u8 k, .string fr, .int .u64 sq, .int .u64 inc] 66)).heap[b3]? = some (.cells #[.int .u64 num, .int .u8 k, .string fr, .int .u64 sq, .int .u64 inc] 66 (0, 0)) := by subst hb3; exact heap_alloc_new w _
  have hR1 := hR.keep ka
  have hV1 := hV.keep ka
  have kb : Keeps (fun b => b = bc) w (w.alloc (.cells #[.int .u64 num, .int .u8 k, .string fr, .int .u64 sq, .int .u64 inc] 66)) := ka.mono (fun _ _ h => h.elim)
  obtain ⟨ma, mc, hvm⟩ := own_sliceB hR
  obtain ⟨mn, hmn⟩ : ∃ mn, ss.length = mn := ⟨_, rfl⟩
  rw [hmn] at hvm
  subst hvm
  have HMN := Hid.mk' hmn
  clear hmn ka
  go_enter Yba.func17, Yba.ntmps17
  go_upto_region 1 with fail
  clear hb3 hc hR hV
  generalize (w.alloc (.cells #[.int .u64 num, .int .u8 k, .string fr, .int .u64 sq, .int .u64 inc] 66)) = w1 at *
  have d0 : w1.cell? ⟨b3, 1, none⟩ = some (.int .u8 k) := cell_of_row w1 b3 1 _ 66 (0, 0) hd1
  have c0 : w1.cell? ⟨bc, 0, none⟩ = some (.int .u64 id) := cell_of_row w1 bc 0 _ 34 (0, 0) hc1
  have c1 : w1.cell? ⟨bc, 1, none⟩ = some (.slice ma mn mc) := cell_of_row w1 bc 1 _ 34 (0, 0) hc1
  have c2 : w1.cell? ⟨bc, 2, none⟩ = some vl := cell_of_row w1 bc 2 _ 34 (0, 0) hc1
  have q2 : w1.frozen? ⟨bc, 2, none⟩ = false := frozen_of_row w1 bc 2 _ 34 hc1
  have hne : b3 ≠ bc := fun e => by rw [e] at hd1; rw [hc1] at hd1; cases hd1
  have hblt : b3 < w1.heap.size := (Array.getElem?_eq_some_iff.1 hd1).1
  have HR1 := Hid.mk' hR1
  have HV1 := Hid.mk' hV1
  clear hR1 hV1
  go_upto_if 6 with fail
  go_cut [] from 4 to 31 (fun wc => ∃ (vl' : Value) (ps' : List (Int × Value)), Keeps (fun b => b = bc) w wc ∧ wc.heap[bc]? = some (.cells #[.int .u64 id, .slice ma mn mc, vl'] 34 (0, 0)) ∧ wc.heap[b3]? = some (.cells #[.int .u64 num, .int .u8 k, .string fr, .int .u64 sq, .int .u64 inc] 66 (0, 0)) ∧ Rd wc (.slice ma mn mc) ss ∧ VRow wc vl' ps' (leftL k ss L))
  case first =>
    by_cases k5 : k = 5
    · subst k5
      have k1 : Keeps (fun b => b = bc) w1 (w1.setCell ⟨bc, 2, none⟩ (.slice none 0 0)) := (Keeps.refl (fun b => b = bc) w1).setCell (p := ⟨bc, 2, none⟩) (fun _ => rfl) _
      have h2 := heap_setCell_same w1 bc 2 _ 34 (.slice none 0 0) hc1
      have hk := kb.trans k1 (fun _ _ h => h)
      have h3 := (k1.block b3 hblt hne).trans hd1
      have hr := own_off HR1.out hc1 (by decide) k1
      have HF := Hid.mk' (And.intro hk (And.intro h2 (And.intro h3 hr)))
      clear k1 h2 hk h3 hr
      go_wp2
      go_meet
      exact ⟨_, _, HF.out.1, HF.out.2.1, HF.out.2.2.1, HF.out.2.2.2, VRow.nil _⟩
    · have k5' : ((k : Int) == 5) = false := by simp; omega
      by_cases k23 : k = 2 ∨ k = 3
      · obtain ⟨va, vc, hvl⟩ := own_sliceB HV1.out.row
        obtain ⟨pn, hpn⟩ : ∃ pn, ps.length = pn := ⟨_, rfl⟩
        rw [hpn] at hvl
        have HPN := Hid.mk' hpn
        subst hvl
        have hpb : pn ≤ 1000 := by rw [← hpn, HV1.out.len]; exact hL
        have hnone : va = none → pn = 0 ∧ vc = 0 := by
          rcases HV1.out.row.2 with ⟨h', h0⟩ | ⟨g, cap, cur, h', _⟩
          · injection h' with _ e1 e2
            exact fun _ => ⟨e1, e2⟩
          · injection h' with e1
            intro e; rw [e] at e1; cases e1
        have hcap : pn ≤ vc := by
          rcases HV1.out.row.2 with ⟨h', h0⟩ | ⟨g, cap, cur, h', _, _, hnc, _⟩
          · injection h' with _ e1 e2; omega
          · injection h' with _ _ e2; subst e2; omega
        have hcl : ∀ wx : World, Calls Yba.prog 22 #[.slice va pn vc] wx fun r w' => r = .returned (.slice va pn pn) ∧ w' = wx := fun wx => clip_any wx va pn vc hnone hcap (by omega)
        have olds : ∀ wx : World, Keeps (fun _ => False) w1 wx → ∀ b, va = some b → ∀ j u, (vcells ps)[j]? = some u → wx.cell? (b.add j) = some u := fun wx hk b hb j u hu => by
          refine hk.st ?_
          subst hb
          rcases HV1.out.row.2 with ⟨h', h0⟩ | ⟨g, cap, cur, h', _⟩
          · cases h'
          · injection h' with e1
            cases e1
            exact HV1.out.row.cells (g := g) rfl j u hu
        have HOL := Hid.mk' olds
        have ka := (Keeps.refl (fun _ => False) w1).alloc (.cells #[.int .u64 id, .slice ma mn mc] 31)
        have hca : (w1.alloc (.cells #[.int .u64 id, .slice ma mn mc] 31)).heap[bc]? = _ := (ka.block bc (Array.getElem?_eq_some_iff.1 hc1).1 (fun h => h)).trans hc1
        have a0 : (w1.alloc (.cells #[.int .u64 id, .slice ma mn mc] 31)).cell? ⟨bc, 0, none⟩ = some (.int .u64 id) := cell_of_row _ bc 0 _ 34 (0, 0) hca
        have a1 : (w1.alloc (.cells #[.int .u64 id, .slice ma mn mc] 31)).cell? ⟨bc, 1, none⟩ = some (.slice ma mn mc) := cell_of_row _ bc 1 _ 34 (0, 0) hca
        have a2 : (w1.alloc (.cells #[.int .u64 id, .slice ma mn mc] 31)).cell? ⟨bc, 2, none⟩ = some (.slice va pn vc) := cell_of_row _ bc 2 _ 34 (0, 0) hca
        have hsrc : ∀ j u, ([.int .u64 id, .slice ma mn mc] : List Value)[j]? = some u → (w1.alloc (.cells #[.int .u64 id, .slice ma mn mc] 31)).drew.cell? ((⟨w1.heap.size, 0, none⟩ : Addr).add j) = some u := fun j u hu => by
          rw [addr0]
          have : (w1.alloc (.cells #[.int .u64 id, .slice ma mn mc] 31)).cell? ⟨w1.heap.size, j, none⟩ = some u := by rw [cell_of_row _ w1.heap.size j _ 31 (0, 0) (heap_alloc_new w1 _)]; simpa using hu
          exact this
        have HSRC := Hid.mk' hsrc
        have HNO := Hid.mk' hnone
        clear olds hsrc hnone hcap hpn ka
        rcases k23 with rfl | rfl
        · go_upto_region 4 with fail
          refine wp_region_noPanic ?_
          go_region_law (first
            | (refine step_append_grows rfl (.tmp 23) (.tmp 28) 29 rfl 31 i31 (.agg #[.int .u64 0, .slice none 0 0]) 2 32 Yba.underlying29 hi31 hz31 hs31 hb31 rfl (by omega) va pn pn (vcells ps) rfl (fun h => ⟨(HNO.out h).1, (HNO.out h).1⟩) (by rw [vcells_len, HPN.out]) (HOL.out _ (((Keeps.refl (fun _ => False) w1).alloc (.cells #[.int .u64 id, .slice ma mn mc] 31)).drew)) ⟨w1.heap.size, 0, none⟩ 1 1 [.int .u64 id, .slice ma mn mc] rfl rfl HSRC.out (by simp [Value.oneCell']) (by omega) (by unfold maxLen; omega) (by omega) ?_; intro v' w9 hown hgrow; have k9 : Keeps (fun _ => False) w1 w9 := ((Keeps.refl (fun _ => False) w1).alloc (.cells #[.int .u64 id, .slice ma mn mc] 31)).drew.trans (Keeps.of_grown hgrow (fun k h => by cases h)) (fun _ _ h => h); have hc9 := (k9.block bc (Array.getElem?_eq_some_iff.1 hc1).1 (fun h => h)).trans hc1; have r2 : w9.cell? ⟨bc, 2, none⟩ = some (.slice va pn vc) := cell_of_row w9 bc 2 _ 34 (0, 0) hc9; have r3 : w9.frozen? ⟨bc, 2, none⟩ = false := frozen_of_row w9 bc 2 _ 34 hc9; have hown0 := own_base0 hown; obtain ⟨xa, xc, rfl⟩ := own_sliceB hown0)
            | (refine step_call 22 #[.slice va pn vc] rfl ?_ (hcl _) ?_; (go_simp); rintro r w' ⟨rfl, rfl⟩; refine ⟨_, rfl, ?_⟩))
          all_goals
            refine NoPanic.normal ?_
            have k10 : Keeps (fun b => b = bc) w9 (w9.setCell ⟨bc, 2, none⟩ (.slice xa (pn + 1) xc)) := (Keeps.refl (fun b => b = bc) w9).setCell (p := ⟨bc, 2, none⟩) (fun _ => rfl) _
            have h2 := heap_setCell_same w9 bc 2 _ 34 (.slice xa (pn + 1) xc) hc9
            have hk := (kb.trans k9 (fun _ _ h => h.elim)).trans k10 (fun _ _ h => h)
            have hd9 := (k9.block b3 hblt (fun h => h)).trans hd1
            have h3 := (k10.block b3 (Array.getElem?_eq_some_iff.1 hd9).1 hne).trans hd9
            have hr := own_off (HR1.out.keep k9) hc9 (by decide) k10
            have hv := ((HV1.out.keep k9).push (id := (id : Int)) (HR1.out.keep k9) (by rw [HPN.out]; exact hown0)).off hc9 k10
            have HF := Hid.mk' (And.intro hk (And.intro h2 (And.intro h3 (And.intro hr hv))))
            clear k10 h2 hk h3 hr hv hd9 k9 hc9 r2 r3 hown0 hown hgrow
            go_wp2
            go_meet
            exact ⟨_, _, HF.out.1, HF.out.2.1, HF.out.2.2.1, HF.out.2.2.2.1, HF.out.2.2.2.2⟩
        · go_upto_region 4 with fail
          refine wp_region_noPanic ?_
          go_region_law (first
            | (refine step_append_grows rfl (.tmp 23) (.tmp 28) 29 rfl 31 i31 (.agg #[.int .u64 0, .slice none 0 0]) 2 32 Yba.underlying29 hi31 hz31 hs31 hb31 rfl (by omega) va pn pn (vcells ps) rfl (fun h => ⟨(HNO.out h).1, (HNO.out h).1⟩) (by rw [vcells_len, HPN.out]) (HOL.out _ (((Keeps.refl (fun _ => False) w1).alloc (.cells #[.int .u64 id, .slice ma mn mc] 31)).drew)) ⟨w1.heap.size, 0, none⟩ 1 1 [.int .u64 id, .slice ma mn mc] rfl rfl HSRC.out (by simp [Value.oneCell']) (by omega) (by unfold maxLen; omega) (by omega) ?_; intro v' w9 hown hgrow; have k9 : Keeps (fun _ => False) w1 w9 := ((Keeps.refl (fun _ => False) w1).alloc (.cells #[.int .u64 id, .slice ma mn mc] 31)).drew.trans (Keeps.of_grown hgrow (fun k h => by cases h)) (fun _ _ h => h); have hc9 := (k9.block bc (Array.getElem?_eq_some_iff.1 hc1).1 (fun h => h)).trans hc1; have r2 : w9.cell? ⟨bc, 2, none⟩ = some (.slice va pn vc) := cell_of_row w9 bc 2 _ 34 (0, 0) hc9; have r3 : w9.frozen? ⟨bc, 2, none⟩ = false := frozen_of_row w9 bc 2 _ 34 hc9; have hown0 := own_base0 hown; obtain ⟨xa, xc, rfl⟩ := own_sliceB hown0)
            | (refine step_call 22 #[.slice va pn vc] rfl ?_ (hcl _) ?_; (go_simp); rintro r w' ⟨rfl, rfl⟩; refine ⟨_, rfl, ?_⟩))
          all_goals
            refine NoPanic.normal ?_
            have k10 : Keeps (fun b => b = bc) w9 (w9.setCell ⟨bc, 2, none⟩ (.slice xa (pn + 1) xc)) := (Keeps.refl (fun b => b = bc) w9).setCell (p := ⟨bc, 2, none⟩) (fun _ => rfl) _
            have h2 := heap_setCell_same w9 bc 2 _ 34 (.slice xa (pn + 1) xc) hc9
            have hk := (kb.trans k9 (fun _ _ h => h.elim)).trans k10 (fun _ _ h => h)
            have hd9 := (k9.block b3 hblt (fun h => h)).trans hd1
            have h3 := (k10.block b3 (Array.getElem?_eq_some_iff.1 hd9).1 hne).trans hd9
            have hr := own_off (HR1.out.keep k9) hc9 (by decide) k10
            have hv := ((HV1.out.keep k9).push (id := (id : Int)) (HR1.out.keep k9) (by rw [HPN.out]; exact hown0)).off hc9 k10
            have HF := Hid.mk' (And.intro hk (And.intro h2 (And.intro h3 (And.intro hr hv))))
            clear k10 h2 hk h3 hr hv hd9 k9 hc9 r2 r3 hown0 hown hgrow
            go_wp2
            go_meet
            exact ⟨_, _, HF.out.1, HF.out.2.1, HF.out.2.2.1, HF.out.2.2.2.1, HF.out.2.2.2.2⟩
      · have k2' : ((k : Int) == 2) = false := by simp; omega
        have k3' : ((k : Int) == 3) = false := by simp; omega
        have hle : leftL k ss L = L := by unfold leftL; rw [if_neg k5, if_neg k23]
        have HLE := Hid.mk' hle
        clear hle
        go_wp2
        go_meet
        exact ⟨_, _, kb, hc1, hd1, HR1.out, by rw [HLE.out]; exact HV1.out⟩
  case rest =>
    clear d0 c0 c1 c2 q2 hne hblt HR1 HV1 kb hc1 hd1
    obtain ⟨vl', ps', hk, hc, hd, hr, hv⟩ := hcut
    have e0 : wc.cell? ⟨bc, 0, none⟩ = some (.int .u64 id) := cell_of_row wc bc 0 _ 34 (0, 0) hc
    have e1 : wc.cell? ⟨bc, 1, none⟩ = some (.slice ma mn mc) := cell_of_row wc bc 1 _ 34 (0, 0) hc
    have g0 : wc.cell? ⟨b3, 0, none⟩ = some (.int .u64 num) := cell_of_row wc b3 0 _ 66 (0, 0) hd
    have g1 : wc.cell? ⟨b3, 1, none⟩ = some (.int .u8 k) := cell_of_row wc b3 1 _ 66 (0, 0) hd
    have g2 : wc.cell? ⟨b3, 2, none⟩ = some (.string fr) := cell_of_row wc b3 2 _ 66 (0, 0) hd
    have g3 : wc.cell? ⟨b3, 3, none⟩ = some (.int .u64 sq) := cell_of_row wc b3 3 _ 66 (0, 0) hd
    have g4 : wc.cell? ⟨b3, 4, none⟩ = some (.int .u64 inc) := cell_of_row wc b3 4 _ 66 (0, 0) hd
    have haf := after_any (hr.keep (Keeps.refl (fun _ => False) wc).drew) hl id num sq inc k fr
    have HK := Hid.mk' hk
    have HC := Hid.mk' hc
    have HV := Hid.mk' hv
    clear hk hv hd hr
    go_upto_region 5 with fail
    refine wp_region_noPanic ?_
    go_region_with (first
      | (go_at_call 23; refine haf.mono ?_; rintro r w5 ⟨id', v', rfl, k5, r5⟩; have hc5 := (((Keeps.refl (fun _ => False) wc).drew.trans k5 (fun _ _ h => h)).block bc (Array.getElem?_eq_some_iff.1 hc).1 (fun h => h)).trans hc; have t0 : w5.cell? ⟨bc, 0, none⟩ = some (.int .u64 id) := cell_of_row w5 bc 0 _ 34 (0, 0) hc5; have t1 : w5.cell? ⟨bc, 1, none⟩ = some (.slice ma mn mc) := cell_of_row w5 bc 1 _ 34 (0, 0) hc5; have t2 : w5.frozen? ⟨bc, 0, none⟩ = false := frozen_of_row w5 bc 0 _ 34 hc5; have t3 : w5.frozen? ⟨bc, 1, none⟩ = false := frozen_of_row w5 bc 1 _ 34 hc5; obtain ⟨xa, xc, hx⟩ := own_sliceB r5; subst hx))
    all_goals
      refine NoPanic.normal ?_
      have k6 := ((Keeps.refl (fun b => b = bc) w5).setCell (p := ⟨bc, 0, none⟩) (fun _ => rfl) (.int .u64 id')).setCell (p := ⟨bc, 1, none⟩) (fun _ => rfl) (.slice xa (afterL k fr ss).length xc)
      have h6 := heap_setCell_same _ bc 1 _ 34 (.slice xa (afterL k fr ss).length xc) (heap_setCell_same w5 bc 0 _ 34 (.int .u64 id') hc5)
      have hk6 := (HK.out.trans ((Keeps.refl (fun _ => False) wc).drew.trans k5 (fun _ _ h => h)) (fun _ _ h => h.elim)).trans k6 (fun _ _ h => h)
      have hr6 := own_off r5 hc5 (by decide) k6
      have hv6 := (HV.out.keep ((Keeps.refl (fun _ => False) wc).drew.trans k5 (fun _ _ h => h))).off hc5 k6
      have HF := Hid.mk' (And.intro hk6 (And.intro h6 (And.intro hr6 hv6)))
      clear k6 h6 hk6 hr6 hv6 t0 t1 t2 t3 hc5 r5 k5 e0 e1 g0 g1 g2 g3 g4 haf hc
      go_wp2
      go_end0
      exact ⟨rfl, _, _, _, _, HF.out.1, HF.out.2.1, HF.out.2.2.1, HF.out.2.2.2⟩
end Go.Proofs.Ybulkcdkc
