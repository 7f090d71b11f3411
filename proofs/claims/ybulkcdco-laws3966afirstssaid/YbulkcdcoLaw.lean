import Derived.Test.YbulkcdcoLw
namespace Go.Proofs.Ybulkcdco
open Go.RowKit

set_option maxHeartbeats 6400000 in
set_option maxRecDepth 1000000 in
theorem law_any (w : World) (a : Option Addr) (len cap : Nat) (h1 : len ≤ 1024)
    (hz : ∀ i, i < len → ∃ a0, a = some a0 ∧ ∃ (k p lo hi ef : Nat) (ln : Int), k < 256 ∧ p < 256 ∧ lo < 65536 ∧ hi < 65536 ∧ ef < 256 ∧ w.cell? (a0.add (i * 6)) = some (.int .u8 k) ∧ w.cell? ⟨(a0.add (i * 6)).block, (a0.add (i * 6)).off + 1, none⟩ = some (.int .u8 p) ∧ w.cell? ⟨(a0.add (i * 6)).block, (a0.add (i * 6)).off + 2, none⟩ = some (.int .u16 lo) ∧ w.cell? ⟨(a0.add (i * 6)).block, (a0.add (i * 6)).off + 3, none⟩ = some (.int .u16 hi) ∧ w.cell? ⟨(a0.add (i * 6)).block, (a0.add (i * 6)).off + 4, none⟩ = some (.int .u8 ef) ∧ w.cell? ⟨(a0.add (i * 6)).block, (a0.add (i * 6)).off + 5, none⟩ = some (.int .i64 ln)) :
    Calls Yba.prog 3 #[.slice a len cap] w fun e w' => e = .returned (.bool true) ∧ Keeps (fun _ => False) w w' := by
  have b1 : decide ((1024 : Int) < (len : Int)) = false := by simp; omega
  have hmm := @run_makeMap Yba.prog
  obtain ⟨i37, hi37, hz37, hs37, hb37⟩ := info_parts Yba.info37
  obtain ⟨i3, hi3, hz3, hs3, hb3⟩ := info_parts Yba.info3
  go_enter Yba.func3, Yba.ntmps3
  go_wp2
  clear hmm b1
  have I0 := inv_start w
  go_loopw [4, 5, 6, 7, 9, 10, 11, 12, 24] (fun vO vA vD vP _ _ _ _ j wr => ∃ (m : Nat) (L : List E) (PL : List Ob) (vp : Value), m ≤ len ∧ j = .int .i64 m ∧ L.length ≤ m ∧ PL.length ≤ m ∧ Inv w wr (w.heap.size + 1) w.heap.size vp vO vA vD vP L PL) (fun _ _ _ _ _ _ _ _ j _ => len - (intOf j).toNat)
  case atStart => exact ⟨0, [], [], _, by omega, rfl, by simp, by simp, I0⟩
  case round =>
    clear I0
    obtain ⟨m, L, PL, vp, hm, rfl, hLm, hPm, I⟩ := hrel
    by_cases hlt : m < len
    · obtain ⟨a0, rfl, k, p, lo, hi, ef, ln, hk, hp, hlo, hhi, hef, z0, z1, z2, z3, z4, z5⟩ := hz m hlt
      clear hz
      have x0 : (m : Int) < (len : Int) := by omega
      have x1 : (0 : Int) ≤ (m : Int) := by omega
      have S1 := Sep.newBlk I #[.int .u8 (k : Int), .int .u8 (p : Int), .int .u16 (lo : Int), .int .u16 (hi : Int), .int .u8 (ef : Int), .int .i64 ln] 31
      have st : ∀ {p : Addr} {v : Value}, w.cell? p = some v → wr.cell? p = some v := fun {p v} h => ((Sep.base I).cell (World.block_lt_of_cell? w _ h) (fun h => h)).trans h
      have z0 := st z0
      have z1 := st z1
      have z2 := st z2
      have z3 := st z3
      have z4 := st z4
      have z5 := st z5
      go_wp2_with fail
      clear z0 z1 z2 z3 z4 z5 st
      have hrl := I.head
      clear I
      generalize hgs : wr.heap.size = gs at *
      generalize (wr.alloc (.cells #[.int .u8 (k : Int), .int .u8 (p : Int), .int .u16 (lo : Int), .int .u16 (hi : Int), .int .u8 (ef : Int), .int .i64 ln] 31)) = w1 at *
      clear hgs hrl
      refine (obj_any w1 k p lo hi ef ln hk hp hlo hhi).mono ?_
      rintro r w2 ⟨o, rfl, ho, hok, k2⟩
      have S2 := S1.quiet k2
      have S3 := S2.newBlk #[.string o.k, .string o.p, .string o.r, .int .u16 (o.lo : Int), .int .u16 (o.hi : Int)] 37
      clear S1 S2 k2 hk hp hlo hhi
      unfold Ob.v
      go_upto_region 11 with fail
      generalize hgo : w2.heap.size = go at *
      generalize (w2.alloc (.cells #[.string o.k, .string o.p, .string o.r, .int .u16 (o.lo : Int), .int .u16 (o.hi : Int)] 37)) = w3 at *
      clear hgo
      have hbo : w3.heap[go]? = _ := S3.head
      have hbs : w3.heap[gs]? = _ := S3.tail.head
      have q4 : w3.cell? ⟨gs, 4, none⟩ = some (.int .u8 (ef : Int)) := by simp [World.cell?, hbs]
      have q5 : w3.cell? ⟨gs, 5, none⟩ = some (.int .i64 ln) := by simp [World.cell?, hbs]
      have o0 : w3.cell? ⟨go, 0, none⟩ = some (.string o.k) := by simp [World.cell?, hbo]
      have o1 : w3.cell? ⟨go, 1, none⟩ = some (.string o.p) := by simp [World.cell?, hbo]
      have o2 : w3.cell? ⟨go, 2, none⟩ = some (.string o.r) := by simp [World.cell?, hbo]
      have o3 : w3.cell? ⟨go, 3, none⟩ = some (.int .u16 (o.lo : Int)) := by simp [World.cell?, hbo]
      have o4 : w3.cell? ⟨go, 4, none⟩ = some (.int .u16 (o.hi : Int)) := by simp [World.cell?, hbo]
      have S3d := S3.quiet ((Keeps.refl (fun _ => False) w3).drew)
      go_cut [] from 30 to 37 (fun wc => ∃ vp' L1 PL1 i, ∃ hp : Pre o (decide (k % 4 = 3)) L PL L1 PL1 i, Sep w wc [Res.rows (w.heap.size + 1) w.heap.size vp' (L1.set i (bump (decide (ef % 4 = 0)) ln (L1[i]'hp.lt))) PL1, Res.blk go #[.string o.k, .string o.p, .string o.r, .int .u16 (o.lo : Int), .int .u16 (o.hi : Int)] 37, Res.blk gs #[.int .u8 (k : Int), .int .u8 (p : Int), .int .u16 (lo : Int), .int .u16 (hi : Int), .int .u8 (ef : Int), .int .i64 ln] 31, Res.row 37 5 u4 L.length (L.flatMap fun x => x.o.cells), Res.row 3 1 u5 L.length (L.map fun x => Value.int .i64 x.a), Res.row 3 1 u6 L.length (L.map fun x => Value.int .i64 x.d), Res.row 37 5 u7 PL.length (PL.flatMap Ob.cells)])
      case first =>
        go_region_with (first
          | (go_at_call 8
             refine (eff_any _ ef hef).mono ?_
             rintro r w4 ⟨e, rfl, he, k4⟩
             have S4 := S3d.quiet k4
             have hbo4 : w4.heap[go]? = _ := S4.head
             have hbs4 : w4.heap[gs]? = _ := S4.tail.head
             have q54 : w4.cell? ⟨gs, 5, none⟩ = some (.int .i64 ln) := by simp [World.cell?, hbs4]
             have o04 : w4.cell? ⟨go, 0, none⟩ = some (.string o.k) := by simp [World.cell?, hbo4]
             have o14 : w4.cell? ⟨go, 1, none⟩ = some (.string o.p) := by simp [World.cell?, hbo4]
             have o24 : w4.cell? ⟨go, 2, none⟩ = some (.string o.r) := by simp [World.cell?, hbo4]
             have o34 : w4.cell? ⟨go, 3, none⟩ = some (.int .u16 (o.lo : Int)) := by simp [World.cell?, hbo4]
             have o44 : w4.cell? ⟨go, 4, none⟩ = some (.int .u16 (o.hi : Int)) := by simp [World.cell?, hbo4])
          | (go_at_call 7
             refine (add_any S4.p3 o ho e _ he _ hok ln (by omega)).mono ?_
             rintro r w5 ⟨rfl, vp', L1, PL1, i, hp, S5⟩))
        all_goals
          go_wp2
          go_meet
          case rel => exact ⟨vp', L1, PL1, i, hp, S5⟩
      case rest =>
        obtain ⟨vp', L1, PL1, i, hp, S5⟩ := hcut
        clear S3 S3d hbo hbs q4 q5 o0 o1 o2 o3 o4
        have hlt1 := hp.lt
        obtain ⟨LB, hLB⟩ : ∃ LB, LB = L1.set i (bump (decide (ef % 4 = 0)) ln (L1[i]'hlt1)) := ⟨_, rfl⟩
        have HLB := Hid.mk' hLB
        rw [← hLB] at S5
        clear hLB
        obtain ⟨ao, co, rfl⟩ := own_slice (show wc.ownsRow 0 37 5 u4 L.length _ from S5.tail.tail.tail.head)
        go_wp2
        go_loopw [11, 12] (fun vi vj wx => ∃ q : Nat, q ≤ L.length ∧ vi = .int .i64 (-1) ∧ vj = .int .i64 q ∧ (∀ t, (ht : t < L.length) → t < q → L[t].o ≠ o) ∧ Sep w wx [Res.rows (w.heap.size + 1) w.heap.size vp' LB PL1, Res.blk go #[.string o.k, .string o.p, .string o.r, .int .u16 (o.lo : Int), .int .u16 (o.hi : Int)] 37, Res.blk gs #[.int .u8 (k : Int), .int .u8 (p : Int), .int .u16 (lo : Int), .int .u16 (hi : Int), .int .u8 (ef : Int), .int .i64 ln] 31, Res.row 37 5 (.slice ao L.length co) L.length (L.flatMap fun x => x.o.cells), Res.row 3 1 u5 L.length (L.map fun x => Value.int .i64 x.a), Res.row 3 1 u6 L.length (L.map fun x => Value.int .i64 x.d), Res.row 37 5 u7 PL.length (PL.flatMap Ob.cells)]) (fun _ vj _ => L.length - (intOf vj).toNat)
        case atStart => exact ⟨0, by omega, rfl, rfl, (fun t _ h => by omega), S5⟩
        case round =>
          clear S5
          obtain ⟨q, hq, rfl, rfl, hne, S5⟩ := hrel
          by_cases hqL : q < L.length
          · have y0 : (q : Int) < (L.length : Int) := by omega
            have y1 : (0 : Int) ≤ (q : Int) := by omega
            obtain ⟨g, cap', hao, hcell⟩ := own_some5 (show wr.ownsRow 0 37 5 (.slice ao L.length co) L.length _ from S5.tail.tail.tail.head) (by omega)
            injection hao with hao _ hco
            subst hao
            subst hco
            have hcell' : ∀ j u, ((L.map E.o).flatMap Ob.cells)[j]? = some u → wr.cell? ⟨g, j, none⟩ = some u := by
              rw [List.flatMap_map]; exact hcell
            obtain ⟨z0, z1, z2, z3, z4⟩ := ob_cells hcell' q (by simpa using hqL)
            simp only [List.getElem_map] at z0 z1 z2 z3 z4
            have hbo : wr.heap[go]? = _ := S5.tail.head
            have o0 : wr.cell? ⟨go, 0, none⟩ = some (.string o.k) := by simp [World.cell?, hbo]
            have o1 : wr.cell? ⟨go, 1, none⟩ = some (.string o.p) := by simp [World.cell?, hbo]
            have o2 : wr.cell? ⟨go, 2, none⟩ = some (.string o.r) := by simp [World.cell?, hbo]
            have o3 : wr.cell? ⟨go, 3, none⟩ = some (.int .u16 (o.lo : Int)) := by simp [World.cell?, hbo]
            have o4 : wr.cell? ⟨go, 4, none⟩ = some (.int .u16 (o.hi : Int)) := by simp [World.cell?, hbo]
            clear hcell hcell'
            have hOk : L[q].o.Ok := by
              have hR : Rws wr _ _ _ _ _ := S5.head
              rw [HLB.out] at hR
              have hm : L[q].o ∈ (L1.set i (bump (decide (ef % 4 = 0)) ln (L1[i]'hlt1))).map E.o := by
                rw [map_set_same E.o L1 i hlt1 _ (by unfold bump; split <;> rfl)]
                rcases hp with ⟨_, _, h1, _⟩ | ⟨_, _, ⟨f, h1⟩, _⟩
                · rw [h1]; exact List.mem_map_of_mem (by simp)
                · rw [h1, List.map_append]; exact List.mem_append_left _ (List.mem_map_of_mem (by simp))
              simp only [List.mem_map] at hm
              obtain ⟨x, hx, hxo⟩ := hm
              rw [← hxo]; exact hR.ok x hx
            obtain ⟨bq, hEq, hbq⟩ := eq37 wr L[q].o o hOk ho
            go_wp2
            go_quiet (fail)
            cases bq with
            | false =>
              have hneq : L[q].o ≠ o := fun h => by have := hbq.2 h; simp at this
              have S6 := S5.quiet ((Keeps.refl (fun _ => False) wr).drewN nq)
              go_wp2
              go_roundw
              case rel => exact ⟨q + 1, by omega, rfl, by go_num, (fun t ht h => by
                by_cases e : t = q
                · subst e; exact hneq
                · exact hne t ht (by omega)), S6⟩
              case measure => simp [intOf]; omega
            | true =>
              have heq : L[q].o = o := hbq.1 rfl
              have S6 := S5.quiet ((Keeps.refl (fun _ => False) wr).drewN nq)
              rw [HLB.out] at S6
              have hp1 : i = q ∧ L1 = L ∧ PL1 = PL := by
                rcases hp with ⟨hi, hio, h1, h2⟩ | ⟨h, _⟩
                · refine ⟨?_, h1, h2⟩
                  have hnd := (show Rws (wr.drewN nq) _ _ _ _ _ from S6.head).nod
                  rw [map_set_same E.o L1 i hlt1 _ (by unfold bump; split <;> rfl), h1] at hnd
                  exact (List.getElem_inj (xs := L.map E.o) hnd (h₀ := by simpa using hi) (h₁ := by simpa using hqL)).1 (by simp [hio, heq])
                · exact absurd heq (h _ (by simp))
              have SF := S6.perm (List.Perm.cons _ (.swap _ _ _))
              clear S5 S6 hp HLB
              obtain ⟨rfl, rfl, rfl⟩ := hp1
              generalize wr.drewN nq = W at *
              have HLM := Hid.mk' (show L1.length ≤ m + 1 by omega)
              have HPM := Hid.mk' (show PL1.length ≤ m + 1 by omega)
              clear z0 z1 z2 z3 z4 hbo o0 o1 o2 o3 o4 hEq hbq heq
              have hbs : W.heap[gs]? = _ := SF.tail.head
              have q4 : W.cell? ⟨gs, 4, none⟩ = some (.int .u8 (ef : Int)) := by simp [World.cell?, hbs]
              have q5 : W.cell? ⟨gs, 5, none⟩ = some (.int .i64 ln) := by simp [World.cell?, hbs]
              clear hbs
              by_cases hb0 : ef % 4 = 0
              · have hde : decide (ef % 4 = 0) = true := by simp [hb0]
                have hd : ((ef : Int) % 4 == 0) = true := by simp; omega
                rw [hde] at SF
                have SA0 := (SF.quiet ((Keeps.refl (fun _ => False) W).drew)).p5
                have SA1 := SF.p5
                obtain ⟨gA, cA, hA, hcA, hfA⟩ := own_at (show W.ownsRow 0 3 1 u5 L1.length _ from SA1.head) i hlt1
                subst hA
                have hcA' : W.cell? ⟨gA, i, none⟩ = some (.int .i64 L1[i].a) := by rw [hcA]; simp [hlt1]
                have SA := SA0.store i (.int .i64 (lst L1[i].a ln))
                have SB := (SA1.store i (.int .i64 (lst L1[i].a ln))).quiet ((Keeps.refl (fun _ => False) _).drew)
                clear hcA SA0 SA1 SF
                have y0 : (i : Int) < (L1.length : Int) := by omega
                have y1 : (0 : Int) ≤ (i : Int) := by omega
                have y2 : decide ((i : Int) < 0) = false := by simp
                generalize hla : L1[i].a = la at *
                have HLa := Hid.mk' hla
                clear hla
                have IN0 := inv_next (vA := .slice (some ⟨gA, 0, none⟩) L1.length cA) (vD := u6) hlt1 true ln (by rw [← HLa.out] at SA; exact SA.arrA)
                have IN1 := inv_next (vA := .slice (some ⟨gA, 0, none⟩) L1.length cA) (vD := u6) hlt1 true ln (by rw [← HLa.out] at SB; exact SB.arrA)
                clear SA SB
                go_upto_region 26 with fail
                go_region_with (go_at_call 9; refine (less_any _ _ ln).mono ?_; rintro r w9 ⟨rfl, rfl⟩)
                all_goals
                  go_wp2
                  go_roundw
                  case rel => exact ⟨m + 1, L1.set i (bump true ln L1[i]), PL1, vp', by omega, by go_num, by rw [List.length_set]; exact HLM.out, HPM.out, by rw [← HLa.out]; first | exact IN0 | exact IN1⟩
                  case measure => simp [intOf]; omega
              · have hde : decide (ef % 4 = 0) = false := by simp [hb0]
                have hd : ((ef : Int) % 4 == 0) = false := by simp; omega
                rw [hde] at SF
                have SA0 := (SF.quiet ((Keeps.refl (fun _ => False) W).drew)).p6
                have SA1 := SF.p6
                obtain ⟨gA, cA, hA, hcA, hfA⟩ := own_at (show W.ownsRow 0 3 1 u6 L1.length _ from SA1.head) i hlt1
                subst hA
                have hcA' : W.cell? ⟨gA, i, none⟩ = some (.int .i64 L1[i].d) := by rw [hcA]; simp [hlt1]
                have SA := SA0.store i (.int .i64 (lst L1[i].d ln))
                have SB := (SA1.store i (.int .i64 (lst L1[i].d ln))).quiet ((Keeps.refl (fun _ => False) _).drew)
                clear hcA SA0 SA1 SF
                have y0 : (i : Int) < (L1.length : Int) := by omega
                have y1 : (0 : Int) ≤ (i : Int) := by omega
                have y2 : decide ((i : Int) < 0) = false := by simp
                generalize hla : L1[i].d = la at *
                have HLa := Hid.mk' hla
                clear hla
                have IN0 := inv_next (vA := u5) (vD := .slice (some ⟨gA, 0, none⟩) L1.length cA) hlt1 false ln (by rw [← HLa.out] at SA; exact SA.arrD)
                have IN1 := inv_next (vA := u5) (vD := .slice (some ⟨gA, 0, none⟩) L1.length cA) hlt1 false ln (by rw [← HLa.out] at SB; exact SB.arrD)
                clear SA SB
                go_upto_region 27 with fail
                go_region_with (go_at_call 9; refine (less_any _ _ ln).mono ?_; rintro r w9 ⟨rfl, rfl⟩)
                all_goals
                  go_wp2
                  go_roundw
                  case rel => exact ⟨m + 1, L1.set i (bump false ln L1[i]), PL1, vp', by omega, by go_num, by rw [List.length_set]; exact HLM.out, HPM.out, by rw [← HLa.out]; first | exact IN0 | exact IN1⟩
                  case measure => simp [intOf]; omega
          · obtain rfl : q = L.length := by omega
            have hp2 : i = L.length ∧ (∃ f, L1 = L ++ [⟨o, f, 0, 0⟩]) ∧ PL1 = if decide (k % 4 = 3) then PL ++ [o] else PL := by
              rcases hp with ⟨hi, hio, _⟩ | h
              · exact absurd hio (hne i hi hi)
              · exact h.2
            have S6 := S5
            rw [HLB.out] at S6
            clear S5 hp HLB hne
            obtain ⟨rfl, ⟨f, hL1⟩, hPL1⟩ := hp2
            have hl1 : L1.length = L.length + 1 := by rw [hL1]; simp
            have HL1 := Hid.mk' hL1
            have HPL1 := Hid.mk' hPL1
            have Hl1 := Hid.mk' hl1
            have HLM := Hid.mk' (show L1.length ≤ m + 1 by omega)
            have HPM := Hid.mk' (show PL1.length ≤ m + 1 by
              rw [hPL1]
              split
              · simp; omega
              · omega)
            clear hL1 hPL1 hl1
            have hbo : wr.heap[go]? = _ := S6.tail.head
            have o0 : wr.cell? ⟨go, 0, none⟩ = some (.string o.k) := by simp [World.cell?, hbo]
            have o1 : wr.cell? ⟨go, 1, none⟩ = some (.string o.p) := by simp [World.cell?, hbo]
            have o2 : wr.cell? ⟨go, 2, none⟩ = some (.string o.r) := by simp [World.cell?, hbo]
            have o3 : wr.cell? ⟨go, 3, none⟩ = some (.int .u16 (o.lo : Int)) := by simp [World.cell?, hbo]
            have o4 : wr.cell? ⟨go, 4, none⟩ = some (.int .u16 (o.hi : Int)) := by simp [World.cell?, hbo]
            have S7 := S6.p4.quiet ((Keeps.refl (fun _ => False) wr).alloc (.cells #[.string o.k, .string o.p, .string o.r, .int .u16 (o.lo : Int), .int .u16 (o.hi : Int)] 37))
            have hO : World.ownsRow _ 0 37 5 (.slice ao L.length co) L.length _ := S7.head
            go_upto_region 20 with (at_builtin; refine wpList_app _ rfl (.tmp 53) (.tmp 55) 25 rfl 37 i37 (.agg #[.string ⟨#[]⟩, .string ⟨#[]⟩, .string ⟨#[]⟩, .int .u16 0, .int .u16 0]) 5 56 Yba.underlying25 hi37 hz37 hs37 hb37 rfl (by omega) (.slice ao L.length co) L.length _ rfl hO 1 o.cells (Src.ob_new wr o 37) (by unfold maxLen; omega) (by omega) ?_; intro x1 wA hA1 hn1)
            have S8 := S7.app hA1
            obtain ⟨a1, c1, rfl⟩ := own_slice hA1.own
            clear S7 hO hA1 hn1 hbo o0 o1 o2 o3 o4 S6
            have S9 := S8.p5.quiet ((Keeps.refl (fun _ => False) wA).alloc (.cells #[.int .i64 0] 3))
            have hO : World.ownsRow _ 0 3 1 u5 L.length _ := S9.head
            go_upto_region 21 with (at_builtin; refine wpList_app _ rfl (.tmp 57) (.tmp 58) 28 rfl 3 i3 (.int .i64 0) 1 8 Yba.underlying28 hi3 hz3 hs3 hb3 rfl (by omega) u5 L.length _ rfl hO 1 [.int .i64 0] (Src.one_new wA _ _ rfl) (by unfold maxLen; omega) (by omega) ?_; intro x2 wB hA2 hn2)
            have S10 := S9.app hA2
            clear S8 S9 hO hA2 hn2
            have S11 := S10.p6.quiet ((Keeps.refl (fun _ => False) wB).alloc (.cells #[.int .i64 0] 3))
            have hO : World.ownsRow _ 0 3 1 u6 L.length _ := S11.head
            go_upto_region 22 with (at_builtin; refine wpList_app _ rfl (.tmp 60) (.tmp 61) 28 rfl 3 i3 (.int .i64 0) 1 8 Yba.underlying28 hi3 hz3 hs3 hb3 rfl (by omega) u6 L.length _ rfl hO 1 [.int .i64 0] (Src.one_new wB _ _ rfl) (by unfold maxLen; omega) (by omega) ?_; intro x3 wC hA3 hn3)
            have S12 := S11.app hA3
            clear S10 S11 hO hA3 hn3
            -- [D', A', O', rows, go, gs, P]
            have hbs : wC.heap[gs]? = _ := S12.tail.tail.tail.tail.tail.head
            have q0 : wC.cell? ⟨gs, 0, none⟩ = some (.int .u8 (k : Int)) := by simp [World.cell?, hbs]
            clear hbs
            have e1 : (L.flatMap fun x => x.o.cells) ++ o.cells = L1.flatMap fun x => x.o.cells := by rw [HL1.out]; simp
            have e2 : (L.map fun x => Value.int .i64 x.a) ++ [.int .i64 0] = L1.map fun x => Value.int .i64 x.a := by rw [HL1.out]; simp
            have e3 : (L.map fun x => Value.int .i64 x.d) ++ [.int .i64 0] = L1.map fun x => Value.int .i64 x.d := by rw [HL1.out]; simp
            by_cases hpt : k % 4 = 3
            · have hd3 : ((k : Int) % 4 == 3) = true := by simp; omega
              have e4 : PL1 = PL ++ [o] := by rw [HPL1.out]; simp [hpt]
              have hbo : wC.heap[go]? = _ := S12.tail.tail.tail.tail.head
              have o0 : wC.cell? ⟨go, 0, none⟩ = some (.string o.k) := by simp [World.cell?, hbo]
              have o1 : wC.cell? ⟨go, 1, none⟩ = some (.string o.p) := by simp [World.cell?, hbo]
              have o2 : wC.cell? ⟨go, 2, none⟩ = some (.string o.r) := by simp [World.cell?, hbo]
              have o3 : wC.cell? ⟨go, 3, none⟩ = some (.int .u16 (o.lo : Int)) := by simp [World.cell?, hbo]
              have o4 : wC.cell? ⟨go, 4, none⟩ = some (.int .u16 (o.hi : Int)) := by simp [World.cell?, hbo]
              have S13 := S12.p7.quiet ((Keeps.refl (fun _ => False) wC).alloc (.cells #[.string o.k, .string o.p, .string o.r, .int .u16 (o.lo : Int), .int .u16 (o.hi : Int)] 37))
              have hO : World.ownsRow _ 0 37 5 u7 PL.length _ := S13.head
              go_upto_region 24 with (at_builtin; refine wpList_app _ rfl (.tmp 67) (.tmp 69) 25 rfl 37 i37 (.agg #[.string ⟨#[]⟩, .string ⟨#[]⟩, .string ⟨#[]⟩, .int .u16 0, .int .u16 0]) 5 56 Yba.underlying25 hi37 hz37 hs37 hb37 rfl (by omega) u7 PL.length _ rfl hO 1 o.cells (Src.ob_new wC o 37) (by unfold maxLen; omega) (by omega) ?_; intro x4 W hA4 hn4)
              have S14 := S13.app hA4
              have SF : Sep w W [Res.rows (w.heap.size + 1) w.heap.size vp' (L1.set L.length (bump (decide (ef % 4 = 0)) ln (L1[L.length]'hlt1))) PL1, Res.blk gs #[.int .u8 (k : Int), .int .u8 (p : Int), .int .u16 (lo : Int), .int .u16 (hi : Int), .int .u8 (ef : Int), .int .i64 ln] 31, Res.blk go #[.string o.k, .string o.p, .string o.r, .int .u16 (o.lo : Int), .int .u16 (o.hi : Int)] 37, Res.row 37 5 (.slice a1 (L.length + 1) c1) L1.length (L1.flatMap fun x => x.o.cells), Res.row 3 1 x2 L1.length (L1.map fun x => Value.int .i64 x.a), Res.row 3 1 x3 L1.length (L1.map fun x => Value.int .i64 x.d), Res.row 37 5 x4 PL1.length (PL1.flatMap Ob.cells)] := by
                rw [← e1, ← e2, ← e3, Hl1.out, e4, show (PL ++ [o]).length = PL.length + 1 by simp, show (PL ++ [o]).flatMap Ob.cells = PL.flatMap Ob.cells ++ o.cells by simp]
                rw [e4] at S14
                exact S14.back
              clear e1 e2 e3 e4 S12 S13 S14 hO hA4 hn4 hbo o0 o1 o2 o3 o4 q0
              have hbs : W.heap[gs]? = _ := SF.tail.head
              have q4 : W.cell? ⟨gs, 4, none⟩ = some (.int .u8 (ef : Int)) := by simp [World.cell?, hbs]
              have q5 : W.cell? ⟨gs, 5, none⟩ = some (.int .i64 ln) := by simp [World.cell?, hbs]
              clear hbs
              by_cases hb0 : ef % 4 = 0
              · have hde : decide (ef % 4 = 0) = true := by simp [hb0]
                have hd : ((ef : Int) % 4 == 0) = true := by simp; omega
                rw [hde] at SF
                have SA0 := (SF.quiet ((Keeps.refl (fun _ => False) W).drew)).p5
                have SA1 := SF.p5
                obtain ⟨gA, cA, hA, hcA, hfA⟩ := own_at (show W.ownsRow 0 3 1 x2 L1.length _ from SA1.head) L.length hlt1
                subst hA
                have hcA' : W.cell? ⟨gA, L.length, none⟩ = some (.int .i64 L1[L.length].a) := by rw [hcA]; simp [hlt1]
                have SA := SA0.store L.length (.int .i64 (lst L1[L.length].a ln))
                have SB := (SA1.store L.length (.int .i64 (lst L1[L.length].a ln))).quiet ((Keeps.refl (fun _ => False) _).drew)
                clear hcA SA0 SA1 SF
                have y0 : (L.length : Int) < (L1.length : Int) := by omega
                have y1 : (0 : Int) ≤ (L.length : Int) := by omega
                have y2 : decide ((L.length : Int) < 0) = false := by simp
                generalize hla : L1[L.length].a = la at *
                have HLa := Hid.mk' hla
                clear hla
                have IN0 := inv_next (vA := .slice (some ⟨gA, 0, none⟩) L1.length cA) (vD := x3) hlt1 true ln (by rw [← HLa.out] at SA; exact SA.arrA)
                have IN1 := inv_next (vA := .slice (some ⟨gA, 0, none⟩) L1.length cA) (vD := x3) hlt1 true ln (by rw [← HLa.out] at SB; exact SB.arrA)
                clear SA SB
                go_upto_region 26 with fail
                go_region_with (go_at_call 9; refine (less_any _ _ ln).mono ?_; rintro r w9 ⟨rfl, rfl⟩)
                all_goals
                  go_wp2
                  go_roundw
                  case rel => exact ⟨m + 1, L1.set L.length (bump true ln L1[L.length]), PL1, vp', by omega, by go_num, by rw [List.length_set]; exact HLM.out, HPM.out, by rw [← HLa.out]; first | exact IN0 | exact IN1⟩
                  case measure => simp [intOf]; omega
              · have hde : decide (ef % 4 = 0) = false := by simp [hb0]
                have hd : ((ef : Int) % 4 == 0) = false := by simp; omega
                rw [hde] at SF
                have SA0 := (SF.quiet ((Keeps.refl (fun _ => False) W).drew)).p6
                have SA1 := SF.p6
                obtain ⟨gA, cA, hA, hcA, hfA⟩ := own_at (show W.ownsRow 0 3 1 x3 L1.length _ from SA1.head) L.length hlt1
                subst hA
                have hcA' : W.cell? ⟨gA, L.length, none⟩ = some (.int .i64 L1[L.length].d) := by rw [hcA]; simp [hlt1]
                have SA := SA0.store L.length (.int .i64 (lst L1[L.length].d ln))
                have SB := (SA1.store L.length (.int .i64 (lst L1[L.length].d ln))).quiet ((Keeps.refl (fun _ => False) _).drew)
                clear hcA SA0 SA1 SF
                have y0 : (L.length : Int) < (L1.length : Int) := by omega
                have y1 : (0 : Int) ≤ (L.length : Int) := by omega
                have y2 : decide ((L.length : Int) < 0) = false := by simp
                generalize hla : L1[L.length].d = la at *
                have HLa := Hid.mk' hla
                clear hla
                have IN0 := inv_next (vA := x2) (vD := .slice (some ⟨gA, 0, none⟩) L1.length cA) hlt1 false ln (by rw [← HLa.out] at SA; exact SA.arrD)
                have IN1 := inv_next (vA := x2) (vD := .slice (some ⟨gA, 0, none⟩) L1.length cA) hlt1 false ln (by rw [← HLa.out] at SB; exact SB.arrD)
                clear SA SB
                go_upto_region 27 with fail
                go_region_with (go_at_call 9; refine (less_any _ _ ln).mono ?_; rintro r w9 ⟨rfl, rfl⟩)
                all_goals
                  go_wp2
                  go_roundw
                  case rel => exact ⟨m + 1, L1.set L.length (bump false ln L1[L.length]), PL1, vp', by omega, by go_num, by rw [List.length_set]; exact HLM.out, HPM.out, by rw [← HLa.out]; first | exact IN0 | exact IN1⟩
                  case measure => simp [intOf]; omega
            · have hd3 : ((k : Int) % 4 == 3) = false := by simp; omega
              have e4 : PL1 = PL := by rw [HPL1.out]; simp [hpt]
              have SF : Sep w wC [Res.rows (w.heap.size + 1) w.heap.size vp' (L1.set L.length (bump (decide (ef % 4 = 0)) ln (L1[L.length]'hlt1))) PL1, Res.blk gs #[.int .u8 (k : Int), .int .u8 (p : Int), .int .u16 (lo : Int), .int .u16 (hi : Int), .int .u8 (ef : Int), .int .i64 ln] 31, Res.blk go #[.string o.k, .string o.p, .string o.r, .int .u16 (o.lo : Int), .int .u16 (o.hi : Int)] 37, Res.row 37 5 (.slice a1 (L.length + 1) c1) L1.length (L1.flatMap fun x => x.o.cells), Res.row 3 1 x2 L1.length (L1.map fun x => Value.int .i64 x.a), Res.row 3 1 x3 L1.length (L1.map fun x => Value.int .i64 x.d), Res.row 37 5 u7 PL1.length (PL1.flatMap Ob.cells)] := by
                rw [← e1, ← e2, ← e3, Hl1.out]
                rw [e4] at S12 ⊢
                exact S12.p7.back
              clear e1 e2 e3 S12
              go_upto_region 24 with fail
              clear q0
              generalize wC = W at *
              have hbs : W.heap[gs]? = _ := SF.tail.head
              have q4 : W.cell? ⟨gs, 4, none⟩ = some (.int .u8 (ef : Int)) := by simp [World.cell?, hbs]
              have q5 : W.cell? ⟨gs, 5, none⟩ = some (.int .i64 ln) := by simp [World.cell?, hbs]
              clear hbs
              by_cases hb0 : ef % 4 = 0
              · have hde : decide (ef % 4 = 0) = true := by simp [hb0]
                have hd : ((ef : Int) % 4 == 0) = true := by simp; omega
                rw [hde] at SF
                have SA0 := (SF.quiet ((Keeps.refl (fun _ => False) W).drew)).p5
                have SA1 := SF.p5
                obtain ⟨gA, cA, hA, hcA, hfA⟩ := own_at (show W.ownsRow 0 3 1 x2 L1.length _ from SA1.head) L.length hlt1
                subst hA
                have hcA' : W.cell? ⟨gA, L.length, none⟩ = some (.int .i64 L1[L.length].a) := by rw [hcA]; simp [hlt1]
                have SA := SA0.store L.length (.int .i64 (lst L1[L.length].a ln))
                have SB := (SA1.store L.length (.int .i64 (lst L1[L.length].a ln))).quiet ((Keeps.refl (fun _ => False) _).drew)
                clear hcA SA0 SA1 SF
                have y0 : (L.length : Int) < (L1.length : Int) := by omega
                have y1 : (0 : Int) ≤ (L.length : Int) := by omega
                have y2 : decide ((L.length : Int) < 0) = false := by simp
                generalize hla : L1[L.length].a = la at *
                have HLa := Hid.mk' hla
                clear hla
                have IN0 := inv_next (vA := .slice (some ⟨gA, 0, none⟩) L1.length cA) (vD := x3) hlt1 true ln (by rw [← HLa.out] at SA; exact SA.arrA)
                have IN1 := inv_next (vA := .slice (some ⟨gA, 0, none⟩) L1.length cA) (vD := x3) hlt1 true ln (by rw [← HLa.out] at SB; exact SB.arrA)
                clear SA SB
                go_upto_region 26 with fail
                go_region_with (go_at_call 9; refine (less_any _ _ ln).mono ?_; rintro r w9 ⟨rfl, rfl⟩)
                all_goals
                  go_wp2
                  go_roundw
                  case rel => exact ⟨m + 1, L1.set L.length (bump true ln L1[L.length]), PL1, vp', by omega, by go_num, by rw [List.length_set]; exact HLM.out, HPM.out, by rw [← HLa.out]; first | exact IN0 | exact IN1⟩
                  case measure => simp [intOf]; omega
              · have hde : decide (ef % 4 = 0) = false := by simp [hb0]
                have hd : ((ef : Int) % 4 == 0) = false := by simp; omega
                rw [hde] at SF
                have SA0 := (SF.quiet ((Keeps.refl (fun _ => False) W).drew)).p6
                have SA1 := SF.p6
                obtain ⟨gA, cA, hA, hcA, hfA⟩ := own_at (show W.ownsRow 0 3 1 x3 L1.length _ from SA1.head) L.length hlt1
                subst hA
                have hcA' : W.cell? ⟨gA, L.length, none⟩ = some (.int .i64 L1[L.length].d) := by rw [hcA]; simp [hlt1]
                have SA := SA0.store L.length (.int .i64 (lst L1[L.length].d ln))
                have SB := (SA1.store L.length (.int .i64 (lst L1[L.length].d ln))).quiet ((Keeps.refl (fun _ => False) _).drew)
                clear hcA SA0 SA1 SF
                have y0 : (L.length : Int) < (L1.length : Int) := by omega
                have y1 : (0 : Int) ≤ (L.length : Int) := by omega
                have y2 : decide ((L.length : Int) < 0) = false := by simp
                generalize hla : L1[L.length].d = la at *
                have HLa := Hid.mk' hla
                clear hla
                have IN0 := inv_next (vA := x2) (vD := .slice (some ⟨gA, 0, none⟩) L1.length cA) hlt1 false ln (by rw [← HLa.out] at SA; exact SA.arrD)
                have IN1 := inv_next (vA := x2) (vD := .slice (some ⟨gA, 0, none⟩) L1.length cA) hlt1 false ln (by rw [← HLa.out] at SB; exact SB.arrD)
                clear SA SB
                go_upto_region 27 with fail
                go_region_with (go_at_call 9; refine (less_any _ _ ln).mono ?_; rintro r w9 ⟨rfl, rfl⟩)
                all_goals
                  go_wp2
                  go_roundw
                  case rel => exact ⟨m + 1, L1.set L.length (bump false ln L1[L.length]), PL1, vp', by omega, by go_num, by rw [List.length_set]; exact HLM.out, HPM.out, by rw [← HLa.out]; first | exact IN0 | exact IN1⟩
                  case measure => simp [intOf]; omega
    · obtain rfl : m = len := by omega
      clear hz
      unfold Inv at I
      have R : Rws wr _ _ _ L PL := I.head
      obtain ⟨es, clock, hmb, hme⟩ := R.map
      have hesl : es.size = L.length := by have := congrArg List.length hme; simpa using this
      have hget := MapKept.run_getObj_map (P := Yba.prog) hmb
      have hlen : (Builtin.len_ #[24] 3 #[.map (some w.heap.size)]).run Yba.prog wr = .ok (.int .i64 (L.length : Int)) wr := by
        simp [Builtin.len_, run_underlying Yba.underlying24, hget, hesl, goInt, Result.andThen]
      have c0 : wr.cell? ⟨w.heap.size + 1, 0, none⟩ = some (.map (some w.heap.size)) := by simp [World.cell?, R.blk]
      obtain ⟨aO, cO, rfl⟩ := own_slice (show wr.ownsRow 0 37 5 u4 L.length _ from I.tail.head)
      clear hmb hme hget hesl R
      go_wp2
      clear c0 hlen
      go_loopw [13, 14] (fun vi _ wx => ∃ q : Nat, q ≤ L.length ∧ vi = .int .i64 q ∧ Sep w wx [Res.rows (w.heap.size + 1) w.heap.size vp L PL, Res.row 37 5 (.slice aO L.length cO) L.length (L.flatMap fun x => x.o.cells), Res.row 3 1 u5 L.length (L.map fun x => Value.int .i64 x.a), Res.row 3 1 u6 L.length (L.map fun x => Value.int .i64 x.d), Res.row 37 5 u7 PL.length (PL.flatMap Ob.cells)]) (fun vi _ _ => L.length - (intOf vi).toNat)
      case atStart => exact ⟨0, by omega, rfl, I⟩
      case round =>
        clear I
        obtain ⟨q, hq, rfl, S⟩ := hrel
        by_cases hqL : q < L.length
        · have y0 : (q : Int) < (L.length : Int) := by omega
          have y1 : (0 : Int) ≤ (q : Int) := by omega
          have R : Rws wr (w.heap.size + 1) w.heap.size vp L PL := S.head
          have hl : ∀ nq, (Instr.lookup 24 (.map (some w.heap.size)) (.agg #[.string L[q].o.k, .string L[q].o.p, .string L[q].o.r, .int .u16 (L[q].o.lo : Int), .int .u16 (L[q].o.hi : Int)]) false).run Yba.prog (wr.drewN nq) = .ok (.pointer (some ⟨L[q].f, 0, none⟩)) (wr.drewN nq) := fun nq => (R.drewN nq).look_at L[q].o (R.ok _ (by simp)) q hqL rfl
          have c0 : wr.cell? ⟨w.heap.size + 1, 0, none⟩ = some (.map (some w.heap.size)) := by simp [World.cell?, R.blk]
          obtain ⟨g, cap', hao, hcell⟩ := own_some5 (show wr.ownsRow 0 37 5 (.slice aO L.length cO) L.length _ from S.tail.head) (by omega)
          injection hao with hao _ hco
          subst hao
          subst hco
          have hcell' : ∀ j u, ((L.map E.o).flatMap Ob.cells)[j]? = some u → wr.cell? ⟨g, j, none⟩ = some u := by
            rw [List.flatMap_map]; exact hcell
          obtain ⟨z0, z1, z2, z3, z4⟩ := ob_cells hcell' q (by simpa using hqL)
          simp only [List.getElem_map] at z0 z1 z2 z3 z4
          clear hcell hcell'
          go_wp2
          go_quiet (fail)
          have S2 := S.quiet ((Keeps.refl (fun _ => False) wr).drewN nq)
          clear hl c0 z0 z1 z2 z3 z4 R S
          generalize wr.drewN nq = w2 at *
          have hf := (show Rws w2 (w.heap.size + 1) w.heap.size vp L PL from S2.head).fs L[q] (by simp)
          have c1 : w2.cell? ⟨L[q].f, 0, none⟩ = some (.int .i64 L[q].a) := by simp [World.cell?, hf]
          have c2 : w2.cell? ⟨L[q].f, 1, none⟩ = some (.int .i64 L[q].d) := by simp [World.cell?, hf]
          obtain ⟨gA, cA, hA, hcA, -⟩ := own_at (show w2.ownsRow 0 3 1 u5 L.length _ from S2.tail.tail.head) q hqL
          subst hA
          obtain ⟨gD, cD, hD, hcD, -⟩ := own_at (show w2.ownsRow 0 3 1 u6 L.length _ from S2.tail.tail.tail.head) q hqL
          subst hD
          have hcA' : w2.cell? ⟨gA, q, none⟩ = some (.int .i64 L[q].a) := by rw [hcA]; simp [hqL]
          have hcD' : w2.cell? ⟨gD, q, none⟩ = some (.int .i64 L[q].d) := by rw [hcD]; simp [hqL]
          clear hcA hcD hf
          generalize L[q].a = la at *
          generalize L[q].d = ld at *
          generalize L[q].f = lf at *
          go_wp2
          go_quiet (fail)
          have S3 := S2.quiet ((Keeps.refl (fun _ => False) w2).drewN nq)
          clear S2
          go_wp2
          go_roundw
          case rel => exact ⟨q + 1, by omega, by go_num, S3⟩
          case measure => simp [intOf]; omega
        · obtain rfl : q = L.length := by omega
          have R : Rws wr (w.heap.size + 1) w.heap.size vp L PL := S.head
          have c1 : wr.cell? ⟨w.heap.size + 1, 1, none⟩ = some vp := by simp [World.cell?, R.blk]
          obtain ⟨aG, cG, rfl⟩ := own_slice R.prt
          obtain ⟨aP, cP, rfl⟩ := own_slice (show wr.ownsRow 0 37 5 u7 PL.length _ from S.tail.tail.tail.tail.head)
          go_wp2
          clear c1 R
          go_loopw [15] (fun vi wx => ∃ q : Nat, q ≤ PL.length ∧ vi = .int .i64 q ∧ Sep w wx [Res.rows (w.heap.size + 1) w.heap.size (.slice aG PL.length cG) L PL, Res.row 37 5 (.slice aO L.length cO) L.length (L.flatMap fun x => x.o.cells), Res.row 3 1 u5 L.length (L.map fun x => Value.int .i64 x.a), Res.row 3 1 u6 L.length (L.map fun x => Value.int .i64 x.d), Res.row 37 5 (.slice aP PL.length cP) PL.length (PL.flatMap Ob.cells)]) (fun vi _ => PL.length - (intOf vi).toNat)
          case atStart => exact ⟨0, by omega, rfl, S⟩
          case round =>
            clear S
            obtain ⟨q, hq, rfl, S⟩ := hrel
            by_cases hqL : q < PL.length
            · have y0 : (q : Int) < (PL.length : Int) := by omega
              have y1 : (0 : Int) ≤ (q : Int) := by omega
              have R : Rws wr (w.heap.size + 1) w.heap.size (.slice aG PL.length cG) L PL := S.head
              have c1 : wr.cell? ⟨w.heap.size + 1, 1, none⟩ = some (.slice aG PL.length cG) := by simp [World.cell?, R.blk]
              have hEq := fun w' => eq37_same w' PL[q] (R.pok _ (by simp))
              obtain ⟨g, cap', hao, hcell⟩ := own_some5 R.prt (by omega)
              injection hao with hao _ hco
              subst hao
              subst hco
              obtain ⟨g', cap', hao, hcell'⟩ := own_some5 (show wr.ownsRow 0 37 5 (.slice aP PL.length cP) PL.length _ from S.tail.tail.tail.tail.head) (by omega)
              injection hao with hao _ hco
              subst hao
              subst hco
              obtain ⟨z0, z1, z2, z3, z4⟩ := ob_cells hcell q hqL
              obtain ⟨t0, t1, t2, t3, t4⟩ := ob_cells hcell' q hqL
              clear hcell hcell' R
              go_wp2
              go_quiet (fail)
              have S3 := S.quiet ((Keeps.refl (fun _ => False) wr).drewN nq)
              go_wp2
              go_roundw
              case rel => exact ⟨q + 1, by omega, by go_num, S3⟩
              case measure => simp [intOf]; omega
            · obtain rfl : q = PL.length := by omega
              have kE := S.base
              go_wp2
              go_ret
              exact ⟨rfl, kE⟩

set_option maxRecDepth 1000000 in
theorem law_big (w : World) (a : Option Addr) (len cap : Nat) (h : 1024 < len) : Calls Yba.prog 3 #[.slice a len cap] w fun e w' => e = .returned (.bool true) ∧ Keeps (fun _ => False) w w' := by
  have b1 : decide ((1024 : Int) < (len : Int)) = true := by simp; omega
  go_enter Yba.func3, Yba.ntmps3
  go_wp2
  go_ret
  exact ⟨rfl, Keeps.refl _ _⟩
end Go.Proofs.Ybulkcdco
