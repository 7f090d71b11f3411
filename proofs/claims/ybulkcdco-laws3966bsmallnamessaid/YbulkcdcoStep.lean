import Derived.Test.YbulkcdcoGa
import Derived.Test.YbulkcdcoStp
namespace Go.Proofs.Ybulkcdco
open Go.RowKit

theorem own_atB {w : World} {e : TypeId} {v : Value} {n : Nat} {xs : List Value} (h : w.ownsRow 0 e 1 v n xs) (hn : 0 < n) : ∃ g c, v = .slice (some ⟨g, 0, none⟩) n c ∧ n ≤ c ∧ c ≤ 9223372036854775807 ∧ ∀ i, i < n → w.cell? ⟨g, i, none⟩ = xs[i]? ∧ w.frozen? ⟨g, i, none⟩ = false := by
  rcases h.2 with ⟨_, h0⟩ | ⟨g, cap, cur, rfl, hb, hg, hnc, hcm, hcs, htake⟩
  · omega
  · exact ⟨g, cap, rfl, hnc, by unfold maxLen at hcm; omega, fun i hi => ⟨h.cellAt i (by omega), h.frozenAt i⟩⟩
theorem own_takeB {w : World} {e : TypeId} {g n cap : Nat} {xs : List Value} (h : w.ownsRow 0 e 1 (.slice (some ⟨g, 0, none⟩) n cap) n xs) (m : Nat) (hm : m ≤ n) : w.ownsRow 0 e 1 (.slice (some ⟨g, 0, none⟩) m cap) m (xs.take m) := by
  have hl : xs.length = n := by have := h.1; omega
  rcases h.2 with ⟨h', _⟩ | ⟨g', cap', cur, h', hb, hg, hnc, hcm, hcs, htake⟩
  · cases h'
  · cases h'
    refine ⟨by simp; omega, .inr ⟨g, cap, cur, rfl, hb, hg, by omega, hcm, hcs, ?_⟩⟩
    rw [Nat.mul_one] at htake ⊢
    rw [← htake, List.take_take]; congr 1; omega

theorem Sep.r25 {w0 w : World} {a b c d e : Res} {rs : List Res} (S : Sep w0 w (a :: b :: c :: d :: e :: rs)) : Sep w0 w (a :: c :: d :: e :: b :: rs) :=
  S.perm (List.Perm.cons _ (List.perm_middle (l₁ := [c, d, e]) (l₂ := rs) (a := b)).symm)
theorem set_set (cs : Array Value) (i : Nat) (u v : Value) : (cs.setIfInBounds i u).setIfInBounds i v = cs.setIfInBounds i v := by
  apply Array.ext'; simp
theorem set_at (cs : Array Value) (i : Nat) (u : Value) (hi : i < cs.size) : (cs.setIfInBounds i u)[i]? = some u := by simp [hi]
theorem set_ne (cs : Array Value) {i k : Nat} (u : Value) (h : i ≠ k) : (cs.setIfInBounds i u)[k]? = cs[k]? := Array.getElem?_setIfInBounds_ne h

section
variable {w0 w : World} {pg c N s ge gs gt : Nat} {cs : Array Value} {vs : List Value} {A : List (List Nat)} {sn ot S0 : List Nat} {vS : Value} {rs : List Res}

set_option maxHeartbeats 3200000 in
theorem step_any (v : Nat) (S : Sep w0 w (Res.blk pg cs 80 :: Res.adj ge N vs A :: Res.row 3 1 (.slice (some ⟨gs, 0, none⟩) N N) N (nats sn) :: Res.row 3 1 (.slice (some ⟨gt, 0, none⟩) N N) N (nats ot) :: Res.row 3 1 vS (S0.length + 1) (nats (S0 ++ [v])) :: rs))
    (hv : v < N) (hc4 : cs[4]? = some (.int .i64 (s : Int))) (hcc : cs[c]? = some vS) (hc : c ≠ 4) (hsn : sn.length = N) (hot : ot.length = N) (hA : ∀ x ∈ A.getD v [], x < N) (hws : (A.getD v []).length ≤ 10000) (hS0 : S0.length ≤ 1000000) :
    Calls Yba.prog 22 #[.pointer (some ⟨pg, 0, none⟩), .pointer (some ⟨pg, c, none⟩), .slice (some ⟨ge, 0, none⟩) N N, .slice (some ⟨gs, 0, none⟩) N N, .slice (some ⟨gt, 0, none⟩) N N] w fun e w' => ∃ (r : Bool) (j : Nat) (sn' T : List Nat) (vS' : Value), e = .returned (.bool r) ∧
      Sep w0 w' (Res.blk pg (cs.setIfInBounds c vS') 80 :: Res.adj ge N vs A :: Res.row 3 1 (.slice (some ⟨gs, 0, none⟩) N N) N (nats sn') :: Res.row 3 1 (.slice (some ⟨gt, 0, none⟩) N N) N (nats ot) :: Res.row 3 1 vS' (S0 ++ T).length (nats (S0 ++ T)) :: rs) ∧
      StepI (A.getD v []) sn ot s j sn' T ∧ (r = true → ∃ x ∈ A.getD v [], ot.getD x 0 = s) ∧ (r = false → j = (A.getD v []).length) := by
  obtain ⟨i3, hi3, hz3, hs3, hb3⟩ := info_parts Yba.infoC3
  have hblk : w.heap[pg]? = _ := S.head
  obtain ⟨g, cap, rfl, hcap, hcapm, hcell⟩ := own_atB (show w.ownsRow 0 3 1 vS _ _ from S.tail.tail.tail.tail.head) (by omega)
  have hcz : c < cs.size := (Array.getElem?_eq_some_iff.1 hcc).1
  have p0 : w.cell? ⟨pg, c, none⟩ = some (.slice (some ⟨g, 0, none⟩) (S0.length + 1) cap) := by simp [World.cell?, hblk, hcc]
  have pf : w.frozen? ⟨pg, c, none⟩ = false := by simp [World.frozen?, hblk]
  have c1 : w.cell? ⟨g, S0.length, none⟩ = some (.int .i64 (v : Int)) := by rw [(hcell S0.length (by omega)).1]; simp [nats]
  have x0 : (S0.length : Int) ≤ (cap : Int) := by omega
  have x1 : (0 : Int) ≤ (S0.length : Int) := by omega
  have x2 : ((S0.length + 1 : Nat) : Int) - 1 = (S0.length : Int) := by omega
  have x3 : (S0.length : Int) < ((S0.length + 1 : Nat) : Int) := by omega
  have hn1 : S0.length + 1 ≤ 1000001 := by omega
  obtain ⟨n1, hn1e⟩ : ∃ n1, n1 = S0.length + 1 := ⟨_, rfl⟩
  rw [← hn1e] at x2 x3 S p0 hcc hn1 hcap
  have HN1 := Hid.mk' hn1e
  clear hn1e hcell
  go_enter Yba.func22, Yba.ntmps22
  go_wp2
  go_quiet (fail)
  have S1 := S.quiet ((Keeps.refl (fun _ => False) w).drewN nq)
  clear S hblk p0 pf c1
  generalize w.drewN nq = w1 at *
  have hblk : w1.heap[pg]? = _ := S1.head
  have p0 : w1.cell? ⟨pg, c, none⟩ = some (.slice (some ⟨g, 0, none⟩) n1 cap) := by simp [World.cell?, hblk, hcc]
  have pf : w1.frozen? ⟨pg, c, none⟩ = false := by simp [World.frozen?, hblk]
  go_wp2
  go_region
  have S2 : Sep w0 ((w1.setCell ⟨pg, c, none⟩ (.slice (some ⟨g, 0, none⟩) S0.length cap)).drew) (Res.blk pg (cs.setIfInBounds c (.slice (some ⟨g, 0, none⟩) S0.length cap)) 80 :: Res.adj ge N vs A :: Res.row 3 1 (.slice (some ⟨gs, 0, none⟩) N N) N (nats sn) :: Res.row 3 1 (.slice (some ⟨gt, 0, none⟩) N N) N (nats ot) :: Res.row 3 1 (.slice (some ⟨g, 0, none⟩) S0.length cap) S0.length (nats S0) :: rs) := by
    have ho := own_takeB (show w1.ownsRow 0 3 1 (.slice (some ⟨g, 0, none⟩) n1 cap) n1 _ from S1.tail.tail.tail.tail.head) S0.length (by have := HN1.out; omega)
    have e : (nats (S0 ++ [v])).take S0.length = nats S0 := by rw [nats_append, List.take_left' (by rw [nats_len])]
    rw [e] at ho
    have Sx := S1.p5.upd1 (r' := Res.row 3 1 (.slice (some ⟨g, 0, none⟩) S0.length cap) S0.length (nats S0)) ho (Keeps.refl _ _) (fun b hb => .inl (by simp [Res.row, Value.ownBlock] at hb ⊢; exact hb))
    exact ((Sx.p2.blkSet c _).r25).quiet ((Keeps.refl (fun _ => False) _).drew)
  generalize (w1.setCell ⟨pg, c, none⟩ (.slice (some ⟨g, 0, none⟩) S0.length cap)).drew = w2 at *
  clear S1 hblk p0 pf hcc HN1 x2 x3 hcap hn1
  obtain ⟨va, hva, hvc, hvf, hvo⟩ := Adj.at_ (show Adj w2 ge N vs A from S2.tail.head) v hv
  obtain ⟨aw, cw, rfl⟩ := own_sliceB hvo
  have x5 : (v : Int) < (N : Int) := by omega
  have x6 : (0 : Int) ≤ (v : Int) := by omega
  generalize hwsE : A.getD v [] = ws at *
  have HWS := Hid.mk' hwsE
  clear hwsE hvf hvo
  go_wp2
  clear hvc
  go_loopw [13, 40] (fun _ vj wx => ∃ (j : Nat) (sn' T : List Nat) (vS' : Value), j ≤ ws.length ∧ vj = .int .i64 j ∧ StepI ws sn ot s j sn' T ∧ Sep w0 wx (Res.blk pg (cs.setIfInBounds c vS') 80 :: Res.adj ge N vs A :: Res.row 3 1 (.slice (some ⟨gs, 0, none⟩) N N) N (nats sn') :: Res.row 3 1 (.slice (some ⟨gt, 0, none⟩) N N) N (nats ot) :: Res.row 3 1 vS' (S0 ++ T).length (nats (S0 ++ T)) :: rs)) (fun _ vj _ => ws.length - (intOf vj).toNat)
  case atStart => exact ⟨0, sn, [], _, by omega, rfl, StepI.start _ _ _ _, by rw [List.append_nil]; exact S2⟩
  case round =>
    clear S2
    obtain ⟨j, sn', T, vS', hj, rfl, hI, S⟩ := hrel
    by_cases hlt : j < ws.length
    · obtain ⟨hvc, hvf, hvo⟩ := Adj.get (show Adj wr ge N vs A from S.tail.head) hva
      rw [HWS.out] at hvo
      obtain ⟨gw, cw', hgw, -, -, hcw⟩ := own_atB hvo (by omega)
      injection hgw with h1 h2 h3
      subst h1
      subst h3
      obtain ⟨x, hx⟩ : ∃ x, ws[j]? = some x := ⟨ws[j], List.getElem?_eq_getElem hlt⟩
      have hxm : x ∈ ws := List.mem_of_getElem? hx
      have hxN := hA x hxm
      have d0 : wr.cell? ⟨gw, j, none⟩ = some (.int .i64 (x : Int)) := by rw [(hcw j hlt).1]; simp [nats, hx]
      have hblk : wr.heap[pg]? = _ := S.head
      have p4 : wr.cell? ⟨pg, 4, none⟩ = some (.int .i64 (s : Int)) := by
        simp only [World.cell?, hblk]; simp [set_ne cs vS' hc, hc4]
      have d1 : wr.cell? ⟨gt, x, none⟩ = some (.int .i64 ((ot.getD x 0 : Nat) : Int)) := by
        rw [(show wr.ownsRow 0 3 1 (.slice (some ⟨gt, 0, none⟩) N N) N (nats ot) from S.tail.tail.tail.head).cellAt x (by omega)]; exact nats_get ot x (by omega)
      have y0 : (j : Int) < (ws.length : Int) := by omega
      have y1 : (0 : Int) ≤ (j : Int) := by omega
      have y2 : (x : Int) < (N : Int) := by omega
      have y3 : (0 : Int) ≤ (x : Int) := by omega
      obtain ⟨ox, hox⟩ : ∃ ox, ot.getD x 0 = ox := ⟨_, rfl⟩
      rw [hox] at d1
      have HOX := Hid.mk' hox
      clear hox hvc hvf hvo hcw
      go_wp2
      go_quiet (fail)
      have S3 := S.quiet ((Keeps.refl (fun _ => False) wr).drewN nq)
      clear S hblk p4 d0 d1
      generalize wr.drewN nq = w3 at *
      by_cases ho : ox = s
      · subst ho
        go_wp2
        go_ret
        exact ⟨true, j, sn', T, vS', rfl, by rw [HWS.out]; exact ⟨S3, hI, fun _ => ⟨x, hxm, HOX.out⟩, fun h => by cases h⟩⟩
      · have ho' : ((ox : Int) == (s : Int)) = false := by simp; omega
        have hblk : w3.heap[pg]? = _ := S3.head
        have p4 : w3.cell? ⟨pg, 4, none⟩ = some (.int .i64 (s : Int)) := by
          simp only [World.cell?, hblk]; simp [set_ne cs vS' hc, hc4]
        have hrow : w3.ownsRow 0 3 1 (.slice (some ⟨gs, 0, none⟩) N N) N (nats sn') := S3.tail.tail.head
        have hlen := hI.len
        have d2 : w3.cell? ⟨gs, x, none⟩ = some (.int .i64 ((sn'.getD x 0 : Nat) : Int)) := by
          rw [hrow.cellAt x (by omega)]; exact nats_get sn' x (by omega)
        have df : w3.frozen? ⟨gs, x, none⟩ = false := hrow.frozenAt x
        obtain ⟨sx, hsx⟩ : ∃ sx, sn'.getD x 0 = sx := ⟨_, rfl⟩
        rw [hsx] at d2
        have HSX := Hid.mk' hsx
        clear hsx hrow
        go_wp2
        go_quiet (fail)
        have S4 := S3.quiet ((Keeps.refl (fun _ => False) w3).drewN nq)
        clear S3 hblk p4 d2 df
        generalize w3.drewN nq = w4 at *
        by_cases hse : sx = s
        · subst hse
          have hI2 := hI.skip hx (by rw [HOX.out]; exact ho) HSX.out
          go_wp2
          go_roundw
          case rel => exact ⟨j + 1, sn', T, vS', by omega, by go_num, hI2, S4⟩
          case measure => simp [intOf]; omega
        · have hse' : ((sx : Int) != (s : Int)) = true := by simp; omega
          have hI2 := hI.push hx (by rw [HOX.out]; exact ho) (by rw [HSX.out]; exact hse) (by omega)
          have htl := hI.tl
          have hblk : w4.heap[pg]? = _ := S4.head
          have p4 : w4.cell? ⟨pg, 4, none⟩ = some (.int .i64 (s : Int)) := by
            simp only [World.cell?, hblk]; simp [set_ne cs vS' hc, hc4]
          have hrow : w4.ownsRow 0 3 1 (.slice (some ⟨gs, 0, none⟩) N N) N (nats sn') := S4.tail.tail.head
          have d2 : w4.cell? ⟨gs, x, none⟩ = some (.int .i64 (sx : Int)) := by
            rw [hrow.cellAt x (by omega), nats_get sn' x (by omega), HSX.out]
          have df : w4.frozen? ⟨gs, x, none⟩ = false := hrow.frozenAt x
          have S5 := (S4.p3.store x (.int .i64 (s : Int))).q3
          rw [← nats_set] at S5
          clear hrow hblk S4
          go_upto_region 10 with fail
          generalize (w4.setCell ⟨gs, x, none⟩ (.int .i64 (s : Int))) = w5 at *
          clear p4 d2 df
          have hblk : w5.heap[pg]? = _ := S5.head
          have pc : w5.cell? ⟨pg, c, none⟩ = some vS' := by simp only [World.cell?, hblk]; exact set_at cs c vS' hcz
          have S6 := S5.p5.quiet ((Keeps.refl (fun _ => False) w5).alloc (.cells #[.int .i64 (x : Int)] 3))
          have hO : World.ownsRow _ 0 3 1 vS' (S0 ++ T).length (nats (S0 ++ T)) := S6.head
          have hl2 : (S0 ++ T).length ≤ 1010000 := by rw [List.length_append]; omega
          generalize hS0T : (S0 ++ T).length = nst at *
          have HST := Hid.mk' hS0T
          clear hS0T
          obtain ⟨ast, cst, hvse⟩ := own_sliceB hO
          subst hvse
          clear hblk
          go_wp2_with (at_builtin; refine wpList_app _ rfl (.tmp 72) (.tmp 74) 28 rfl 3 i3 (.int .i64 0) 1 8 Yba.underlying28 hi3 hz3 hs3 hb3 rfl (by omega) (.slice ast nst cst) nst _ rfl hO 1 [.int .i64 (x : Int)] (Src.one_new w5 _ _ rfl) (by unfold maxLen; omega) (by omega) ?_; intro x7 w7 hA7 hn7; have S7 := S6.app hA7; have hblk7 : w7.heap[pg]? = _ := S7.tail.head; have pc7 : w7.cell? ⟨pg, c, none⟩ = some (.slice ast nst cst) := (cell_of_row w7 pg c _ 80 (0, 0) hblk7).trans (set_at cs c _ hcz); have pf7 : w7.frozen? ⟨pg, c, none⟩ = false := frozen_of_row w7 pg c _ 80 hblk7; obtain ⟨a7, c7, e7⟩ := own_sliceB hA7.own; subst e7)
          have S8 := (S7.p2.blkSet c (.slice a7 (nst + 1) c7)).r25
          rw [set_set] at S8
          have e8 : nats (S0 ++ T) ++ [.int .i64 (x : Int)] = nats (S0 ++ (T ++ [x])) := by rw [← List.append_assoc, nats_append (S0 ++ T)]; rfl
          have e9 : (S0 ++ (T ++ [x])).length = nst + 1 := by have := HST.out; simp at this ⊢; omega
          rw [e8, ← e9] at S8
          have H9 := Hid.mk' e9
          clear S7 S6 S5 hA7 hn7 hO pc pc7 pf7 hblk7 e8 e9
          rw [← H9.out]
          refine ⟨⟨j + 1, sn'.set x s, T ++ [x], _, by omega, by go_num, hI2, S8⟩, ?_⟩
          simp [intOf]; omega
    · obtain rfl : j = ws.length := by omega
      go_wp2
      go_ret
      exact ⟨false, ws.length, sn', T, vS', rfl, by rw [HWS.out]; exact ⟨S, hI, (fun h => by cases h), fun _ => rfl⟩⟩
end
end Go.Proofs.Ybulkcdco
