import Derived.Test.YbulkcdkcQuo
namespace Go.Proofs.Ybulkcdkc
open Go.RowKit

/-- The members behind a decision. -/
def afterL (k : Nat) (fr : ByteArray) (ss : List ByteArray) : List ByteArray := if k = 3 then ss ++ [fr] else if k = 2 then ss.filter (fun x => !eqb x fr) else ss

/-- A new one-cell block, as a source. -/
theorem Src.blk {w : World} {g : Nat} {u : Value} {t : TypeId} (hg : w.heap[g]? = some (.cells #[u] t (0, 0))) (h1 : u.oneCell' = true) : Src w 1 (.slice (some ⟨g, 0, none⟩) 1 1) 1 [u] := by
  refine ⟨rfl, fun x hx => by simp at hx; subst hx; exact h1, some ⟨g, 0, none⟩, 1, rfl, (fun h => by cases h), (fun a ha => ?_)⟩
  cases ha
  intro j v hj
  rw [addr0, cell_of_row w g j _ t (0, 0) hg]
  simpa using hj

theorem Sep.glue {w0 w1 w2 : World} {rs rs' : List Res} (S : Sep w0 w1 rs) (S' : Sep w1 w2 rs') : Sep w0 w2 (rs' ++ rs) := by
  refine ⟨S.base.trans S'.base (fun _ _ h => h), fun r hr => ?_, List.pairwise_append.2 ⟨S'.dis, S.dis, fun r hr s hs b hb hb' => ?_⟩, fun r hr b hb => ?_⟩
  · rcases List.mem_append.1 hr with hr | hr
    · exact S'.all r hr
    · exact r.keep w1 w2 _ (S.all r hr) S'.base (fun _ _ h => h)
  · have h1 := S'.new r hr b hb
    have h2 := s.lt w1 b (S.all s hs) hb'
    omega
  · rcases List.mem_append.1 hr with hr | hr
    · have h1 := S'.new r hr b hb
      exact Nat.le_trans S.base.size h1
    · exact S.new r hr b hb
theorem clone_k {w : World} {v : Value} {ss : List ByteArray} {n : Nat} (h : Rd w v ss) (hl : ss.length ≤ 100000) (hn : ss.length = n) (w' : World) (hk : Keeps (fun _ => False) w w') :
    Calls Yba.prog 7 #[v] w' fun r w2 => ∃ v', r = .returned v' ∧ Sep w' w2 [Res.row 9 1 v' n (strs ss)] := by
  subst hn
  exact clone_any (Sep.nil (Keeps.refl _ w')) (h.keep hk) hl

set_option maxHeartbeats 1600000 in
set_option maxRecDepth 100000 in
theorem after_any {w : World} {vm : Value} {ss : List ByteArray} (h : Rd w vm ss) (hl : ss.length ≤ 1000) (id : Int) (num sq inc : Nat) (k : Nat) (fr : ByteArray) :
    Calls Yba.prog 23 #[.agg #[.int .u64 id, vm], .agg #[.int .u64 num, .int .u8 k, .string fr, .int .u64 sq, .int .u64 inc]] w fun r w' => ∃ (id' : Int) (v' : Value), r = .returned (.agg #[.int .u64 id', v']) ∧ Keeps (fun _ => False) w w' ∧ Rd w' v' (afterL k fr ss) := by
  obtain ⟨i9, hi9, hz9, hs9, hb9⟩ := info_parts Yba.info9
  have hmf : ∀ (fn : Fn) (first cap : Array Value) (w : World), (Instr.makeFunc fn first cap).run Yba.prog w = .ok (.func fn first cap) w := fun _ _ _ _ => rfl
  obtain ⟨n, hn⟩ : ∃ n, ss.length = n := ⟨_, rfl⟩
  have h' : w.ownsRow 0 9 1 vm n (strs ss) := by rw [← hn]; exact h
  obtain ⟨va, vc, rfl⟩ := own_sliceB h'
  have HN := Hid.mk' hn
  have HR := Hid.mk' h
  rw [hn] at hl
  clear h' h hn
  have S0 : Sep w w [] := Sep.nil (Keeps.refl _ w)
  obtain ⟨b, hb⟩ : ∃ b, w.heap.size = b := ⟨_, rfl⟩
  have z1 : ∀ (W : World) (o : Obj) {h : Nat}, W.heap.size = h → (W.alloc o).heap.size = h + 1 := fun W o h e => by simp [e]
  have S1 := S0.blkAt #[.int .u64 id, .slice va n vc] 31 hb
  have e1 := z1 w (.cells #[.int .u64 id, .slice va n vc] 31) hb
  have S2 := S1.blkAt #[.int .u64 num, .int .u8 k, .string fr, .int .u64 sq, .int .u64 inc] 66 e1
  have e2 := z1 _ (.cells #[.int .u64 num, .int .u8 k, .string fr, .int .u64 sq, .int .u64 inc] 66) e1
  have S3 := S2.blkAt #[.int .u64 0, .slice none 0 0] 31 e2
  clear S0 S1 S2 e1 e2 z1
  go_enter Yba.func23, Yba.ntmps23
  go_upto_region 1 with fail
  clear hb
  generalize b + 1 + 1 = b4 at *
  generalize b + 1 = b3 at *
  generalize (((w.alloc (.cells #[.int .u64 id, .slice va n vc] 31)).alloc (.cells #[.int .u64 num, .int .u8 k, .string fr, .int .u64 sq, .int .u64 inc] 66)).alloc (.cells #[.int .u64 0, .slice none 0 0] 31)) = w2 at *
  have hb2 : w2.heap[b]? = _ := S3.tail.tail.head
  have hb3 : w2.heap[b3]? = _ := S3.tail.head
  have hb4 : w2.heap[b4]? = _ := S3.head
  have c0 : w2.cell? ⟨b3, 1, none⟩ = some (.int .u8 k) := cell_of_row w2 b3 1 _ 66 (0, 0) hb3
  by_cases k3 : k = 3
  · subst k3
    go_upto_region 3 with fail
    have Sq := S3.quiet ((Keeps.refl (fun _ => False) w2).drew)
    have Sqa := (S3.newBlk #[.string fr] 9).quiet ((Keeps.refl (fun _ => False) _).drew)
    obtain ⟨g9, hg9⟩ : ∃ g9, w2.heap.size = g9 := ⟨_, rfl⟩
    rw [hg9] at Sqa
    have f0 : w2.drew.cell? ⟨b, 0, none⟩ = some (.int .u64 id) := cell_of_row _ b 0 _ 31 (0, 0) Sq.tail.tail.head
    have f1 : w2.drew.cell? ⟨b, 1, none⟩ = some (.slice va n vc) := cell_of_row _ b 1 _ 31 (0, 0) Sq.tail.tail.head
    have f2 : w2.drew.cell? ⟨b3, 2, none⟩ = some (.string fr) := cell_of_row _ b3 2 _ 66 (0, 0) Sq.tail.head
    have a0 : (w2.alloc (.cells #[.string fr] 9)).drew.cell? ⟨b, 0, none⟩ = some (.int .u64 id) := cell_of_row _ b 0 _ 31 (0, 0) Sqa.tail.tail.tail.head
    have a1 : (w2.alloc (.cells #[.string fr] 9)).drew.cell? ⟨b, 1, none⟩ = some (.slice va n vc) := cell_of_row _ b 1 _ 31 (0, 0) Sqa.tail.tail.tail.head
    have a2 : (w2.alloc (.cells #[.string fr] 9)).drew.cell? ⟨b3, 2, none⟩ = some (.string fr) := cell_of_row _ b3 2 _ 66 (0, 0) Sqa.tail.tail.head
    have kq : Keeps (fun _ => False) w w2.drew := Sq.base
    have kqa : Keeps (fun _ => False) w (w2.alloc (.cells #[.string fr] 9)).drew := Sqa.base
    have hck := clone_k HR.out (by have := HN.out; omega) HN.out
    refine wp_region_noPanic ?_
    go_region_held3 (fun w' => w'.cell? ⟨b, 0, none⟩ = some (.int .u64 id) ∧ w'.cell? ⟨b, 1, none⟩ = some (.slice va n vc) ∧ w'.cell? ⟨b3, 2, none⟩ = some (.string fr)) (first | exact ⟨t0, t1, t2⟩ | exact ⟨r0, r1, r2⟩ | exact ⟨u0, u1, u2⟩ | exact ⟨y0, y1, y2⟩ | exact ⟨a0, a1, a2⟩ | exact ⟨f0, f1, f2⟩ | assumption | go_keep) ((first
      | (go_at_call 7; refine (hck _ ?_).mono ?_; (first | exact kq | exact kqa); rintro r w3 ⟨v', rfl, S3'⟩; have y0 : w3.cell? ⟨b, 0, none⟩ = some (.int .u64 id) := (by first | exact S3'.base.st f0 | exact S3'.base.st a0); have y1 : w3.cell? ⟨b, 1, none⟩ = some (.slice va n vc) := (by first | exact S3'.base.st f1 | exact S3'.base.st a1); have y2 : w3.cell? ⟨b3, 2, none⟩ = some (.string fr) := (by first | exact S3'.base.st f2 | exact S3'.base.st a2))
      | (have S4 := ((Sq.glue S3').newBlk #[.string fr] 9).p2; refine step_app rfl (.tmp 15) (.tmp 18) 27 rfl 9 i9 (.string ⟨#[]⟩) 1 16 Yba.underlying27 hi9 hz9 hs9 hb9 rfl (by omega) v' n (strs ss) rfl S4.head (.slice (some ⟨w3.heap.size, 0, none⟩) 1 1) rfl 1 [.string fr] (Src.one_new w3 _ _ rfl) (by unfold maxLen; omega) (by omega) ?_; intro x9 w9 hA9 hn9; obtain ⟨x9a, x9c, rfl⟩ := own_sliceB hA9.own; have S9 := S4.app hA9; have m4 : w9.heap[b4]? = _ := S9.tail.tail.head; have m3 : w9.heap[b3]? = _ := S9.tail.tail.tail.head; have m2 : w9.heap[b]? = _ := S9.tail.tail.tail.tail.head; have r0 : w9.cell? ⟨b, 0, none⟩ = some (.int .u64 id) := cell_of_row _ b 0 _ 31 (0, 0) m2; have r1 : w9.cell? ⟨b, 1, none⟩ = some (.slice va n vc) := cell_of_row _ b 1 _ 31 (0, 0) m2; have r2 : w9.cell? ⟨b3, 2, none⟩ = some (.string fr) := cell_of_row _ b3 2 _ 66 (0, 0) m3; have n0 : w9.cell? ⟨b4, 0, none⟩ = some (.int .u64 0) := cell_of_row _ b4 0 _ 31 (0, 0) m4; have n1 : w9.cell? ⟨b4, 1, none⟩ = some (.slice none 0 0) := cell_of_row _ b4 1 _ 31 (0, 0) m4; have n2 : w9.frozen? ⟨b4, 0, none⟩ = false := frozen_of_row _ b4 0 _ 31 m4; have n3 : w9.frozen? ⟨b4, 1, none⟩ = false := frozen_of_row _ b4 1 _ 31 m4; have S10 := (S9.p3.blkSet 0 (.int .u64 (IntKind.u64.wrap ((id : Int) + 1)))).blkSet 1 (.slice x9a (n + 1) x9c); have t0 : ((w9.setCell ⟨b4, 0, none⟩ (.int .u64 (IntKind.u64.wrap ((id : Int) + 1)))).setCell ⟨b4, 1, none⟩ (.slice x9a (n + 1) x9c)).cell? ⟨b, 0, none⟩ = some (.int .u64 id) := cell_of_row _ b 0 _ 31 (0, 0) S10.tail.tail.tail.tail.head; have t1 : ((w9.setCell ⟨b4, 0, none⟩ (.int .u64 (IntKind.u64.wrap ((id : Int) + 1)))).setCell ⟨b4, 1, none⟩ (.slice x9a (n + 1) x9c)).cell? ⟨b, 1, none⟩ = some (.slice va n vc) := cell_of_row _ b 1 _ 31 (0, 0) S10.tail.tail.tail.tail.head; have t2 : ((w9.setCell ⟨b4, 0, none⟩ (.int .u64 (IntKind.u64.wrap ((id : Int) + 1)))).setCell ⟨b4, 1, none⟩ (.slice x9a (n + 1) x9c)).cell? ⟨b3, 2, none⟩ = some (.string fr) := cell_of_row _ b3 2 _ 66 (0, 0) S10.tail.tail.tail.head)
      | (have S4 := Sqa.glue S3'; refine step_app rfl (.tmp 15) (.tmp 18) 27 rfl 9 i9 (.string ⟨#[]⟩) 1 16 Yba.underlying27 hi9 hz9 hs9 hb9 rfl (by omega) v' n (strs ss) rfl S4.head (.slice (some ⟨g9, 0, none⟩) 1 1) rfl 1 [.string fr] (Src.blk S4.tail.head rfl) (by unfold maxLen; omega) (by omega) ?_; intro x9 w9 hA9 hn9; obtain ⟨x9a, x9c, rfl⟩ := own_sliceB hA9.own; have S9 := S4.app hA9; have m4 : w9.heap[b4]? = _ := S9.tail.tail.head; have m3 : w9.heap[b3]? = _ := S9.tail.tail.tail.head; have m2 : w9.heap[b]? = _ := S9.tail.tail.tail.tail.head; have r0 : w9.cell? ⟨b, 0, none⟩ = some (.int .u64 id) := cell_of_row _ b 0 _ 31 (0, 0) m2; have r1 : w9.cell? ⟨b, 1, none⟩ = some (.slice va n vc) := cell_of_row _ b 1 _ 31 (0, 0) m2; have r2 : w9.cell? ⟨b3, 2, none⟩ = some (.string fr) := cell_of_row _ b3 2 _ 66 (0, 0) m3; have n0 : w9.cell? ⟨b4, 0, none⟩ = some (.int .u64 0) := cell_of_row _ b4 0 _ 31 (0, 0) m4; have n1 : w9.cell? ⟨b4, 1, none⟩ = some (.slice none 0 0) := cell_of_row _ b4 1 _ 31 (0, 0) m4; have n2 : w9.frozen? ⟨b4, 0, none⟩ = false := frozen_of_row _ b4 0 _ 31 m4; have n3 : w9.frozen? ⟨b4, 1, none⟩ = false := frozen_of_row _ b4 1 _ 31 m4; have S10 := (S9.p3.blkSet 0 (.int .u64 (IntKind.u64.wrap ((id : Int) + 1)))).blkSet 1 (.slice x9a (n + 1) x9c); have t0 : ((w9.setCell ⟨b4, 0, none⟩ (.int .u64 (IntKind.u64.wrap ((id : Int) + 1)))).setCell ⟨b4, 1, none⟩ (.slice x9a (n + 1) x9c)).cell? ⟨b, 0, none⟩ = some (.int .u64 id) := cell_of_row _ b 0 _ 31 (0, 0) S10.tail.tail.tail.tail.head; have t1 : ((w9.setCell ⟨b4, 0, none⟩ (.int .u64 (IntKind.u64.wrap ((id : Int) + 1)))).setCell ⟨b4, 1, none⟩ (.slice x9a (n + 1) x9c)).cell? ⟨b, 1, none⟩ = some (.slice va n vc) := cell_of_row _ b 1 _ 31 (0, 0) S10.tail.tail.tail.tail.head; have t2 : ((w9.setCell ⟨b4, 0, none⟩ (.int .u64 (IntKind.u64.wrap ((id : Int) + 1)))).setCell ⟨b4, 1, none⟩ (.slice x9a (n + 1) x9c)).cell? ⟨b3, 2, none⟩ = some (.string fr) := cell_of_row _ b3 2 _ 66 (0, 0) S10.tail.tail.tail.head)))
    all_goals
      refine NoPanic.normal ?_
      have q0 := cell_of_row _ b4 0 _ 31 (0, 0) S10.head
      have q1 := cell_of_row _ b4 1 _ 31 (0, 0) S10.head
      have S11 := S10.tail
      have HS := Hid.mk' S11
      generalize ((w9.setCell ⟨b4, 0, none⟩ (.int .u64 (IntKind.u64.wrap ((id : Int) + 1)))).setCell ⟨b4, 1, none⟩ (.slice x9a (n + 1) x9c)) = w10 at *
      have q0 : w10.cell? ⟨b4, 0, none⟩ = some (.int .u64 (IntKind.u64.wrap ((id : Int) + 1))) := q0
      have q1 : w10.cell? ⟨b4, 1, none⟩ = some (.slice x9a (n + 1) x9c) := q1
      clear S10 S11 S9 S4 t0 t1 t2 r0 r1 r2 n0 n1 n2 n3 m2 m3 m4 y0 y1 y2 f0 f1 f2 a0 a1 a2 hA9 S3' Sq Sqa kq kqa hck
      go_wp2
      refine bodyPost_ret (v := .agg #[.int .u64 (IntKind.u64.wrap ((id : Int) + 1)), .slice x9a (n + 1) x9c]) (by simp [results, Yba.results23, go_sem, q0, q1]) rfl ?_
      exact ⟨_, _, rfl, HS.out.base, by rw [show afterL 3 fr ss = ss ++ [fr] from rfl]; show w10.ownsRow 0 9 1 _ (ss ++ [fr]).length (strs (ss ++ [fr])); rw [strs_append, show (ss ++ [fr]).length = n + 1 by rw [List.length_append, HN.out]; rfl]; exact HS.out.head⟩
  · by_cases k2 : k = 2
    · subst k2
      have hck := clone_k HR.out (by have := HN.out; omega) HN.out
      have c1 : w2.cell? ⟨b, 1, none⟩ = some (.slice va n vc) := cell_of_row _ b 1 _ 31 (0, 0) hb2
      go_wp2_with fail
      refine (hck w2 S3.base).mono ?_
      rintro r w3 ⟨v', rfl, S3'⟩
      have S4 := S3.glue S3'
      rw [← HN.out] at S4
      clear S3 S3' hck c0 c1 hb2 hb3 hb4
      go_wp2_with fail
      refine (delf1_any (P := fun x => eqb x fr) S4 (by have := HN.out; omega) (fun w' S x _ => after1_any S.tail.head x)).mono ?_
      rintro r w5 ⟨v5, rfl, S5⟩
      obtain ⟨fl, hfl⟩ : ∃ fl, ss.filter (fun x => !eqb x fr) = fl := ⟨_, rfl⟩
      rw [hfl] at S5
      have HFL := Hid.mk' hfl
      clear hfl
      have m4 : w5.heap[b4]? = _ := S5.tail.head
      have m3 : w5.heap[b3]? = _ := S5.tail.tail.head
      have m2 : w5.heap[b]? = _ := S5.tail.tail.tail.head
      have d0 : w5.cell? ⟨b3, 3, none⟩ = some (.int .u64 sq) := cell_of_row _ b3 3 _ 66 (0, 0) m3
      have d1 : w5.cell? ⟨b, 0, none⟩ = some (.int .u64 id) := cell_of_row _ b 0 _ 31 (0, 0) m2
      have n0 : w5.cell? ⟨b4, 0, none⟩ = some (.int .u64 0) := cell_of_row _ b4 0 _ 31 (0, 0) m4
      have n1 : w5.cell? ⟨b4, 1, none⟩ = some (.slice none 0 0) := cell_of_row _ b4 1 _ 31 (0, 0) m4
      have n2 : w5.frozen? ⟨b4, 0, none⟩ = false := frozen_of_row _ b4 0 _ 31 m4
      have n3 : w5.frozen? ⟨b4, 1, none⟩ = false := frozen_of_row _ b4 1 _ 31 m4
      clear S4 m2 m3 m4
      by_cases hsq : sq = 0
      · have hs' : decide ((0 : Int) < (sq : Int)) = false := by simp; omega
        have S10 := (S5.p2.blkSet 0 (.int .u64 (IntKind.u64.wrap ((id : Int) + 1)))).blkSet 1 v5
        have q0 : ((w5.setCell ⟨b4, 0, none⟩ (.int .u64 (IntKind.u64.wrap ((id : Int) + 1)))).setCell ⟨b4, 1, none⟩ v5).cell? ⟨b4, 0, none⟩ = some (.int .u64 (IntKind.u64.wrap ((id : Int) + 1))) := cell_of_row _ b4 0 _ 31 (0, 0) S10.head
        have q1 : ((w5.setCell ⟨b4, 0, none⟩ (.int .u64 (IntKind.u64.wrap ((id : Int) + 1)))).setCell ⟨b4, 1, none⟩ v5).cell? ⟨b4, 1, none⟩ = some v5 := cell_of_row _ b4 1 _ 31 (0, 0) S10.head
        obtain ⟨a5, c5, e5⟩ := own_sliceB (show w5.ownsRow 0 9 1 v5 _ _ from S5.head)
        have HS := Hid.mk' S10
        clear S5 S10
        subst e5
        go_wp2
        refine bodyPost_ret (v := .agg #[.int .u64 (IntKind.u64.wrap ((id : Int) + 1)), .slice a5 fl.length c5]) (by simp [results, Yba.results23, go_sem, q0, q1]) rfl ?_
        exact ⟨_, _, rfl, HS.out.base, by rw [show afterL 2 fr ss = fl from HFL.out]; exact HS.out.tail.head⟩
      · have hs' : decide ((0 : Int) < (sq : Int)) = true := by simp; omega
        have S10 := (S5.p2.blkSet 0 (.int .u64 (id : Int))).blkSet 1 v5
        have q0 : ((w5.setCell ⟨b4, 0, none⟩ (.int .u64 (id : Int))).setCell ⟨b4, 1, none⟩ v5).cell? ⟨b4, 0, none⟩ = some (.int .u64 (id : Int)) := cell_of_row _ b4 0 _ 31 (0, 0) S10.head
        have q1 : ((w5.setCell ⟨b4, 0, none⟩ (.int .u64 (id : Int))).setCell ⟨b4, 1, none⟩ v5).cell? ⟨b4, 1, none⟩ = some v5 := cell_of_row _ b4 1 _ 31 (0, 0) S10.head
        obtain ⟨a5, c5, e5⟩ := own_sliceB (show w5.ownsRow 0 9 1 v5 _ _ from S5.head)
        have HS := Hid.mk' S10
        clear S5 S10
        subst e5
        go_wp2
        refine bodyPost_ret (v := .agg #[.int .u64 (id : Int), .slice a5 fl.length c5]) (by simp [results, Yba.results23, go_sem, q0, q1]) rfl ?_
        exact ⟨_, _, rfl, HS.out.base, by rw [show afterL 2 fr ss = fl from HFL.out]; exact HS.out.tail.head⟩
    · have k3' : ((k : Int) == 3) = false := by simp; omega
      have k2' : ((k : Int) == 2) = false := by simp; omega
      have c1 : w2.cell? ⟨b, 0, none⟩ = some (.int .u64 id) := cell_of_row _ b 0 _ 31 (0, 0) hb2
      have c2 : w2.cell? ⟨b, 1, none⟩ = some (.slice va n vc) := cell_of_row _ b 1 _ 31 (0, 0) hb2
      have n0 : w2.cell? ⟨b4, 0, none⟩ = some (.int .u64 0) := cell_of_row _ b4 0 _ 31 (0, 0) hb4
      have n1 : w2.cell? ⟨b4, 1, none⟩ = some (.slice none 0 0) := cell_of_row _ b4 1 _ 31 (0, 0) hb4
      have n2 : w2.frozen? ⟨b4, 0, none⟩ = false := frozen_of_row _ b4 0 _ 31 hb4
      have n3 : w2.frozen? ⟨b4, 1, none⟩ = false := frozen_of_row _ b4 1 _ 31 hb4
      have S10 := (S3.blkSet 0 (.int .u64 (id : Int))).blkSet 1 (.slice va n vc)
      have q0 : ((w2.setCell ⟨b4, 0, none⟩ (.int .u64 (id : Int))).setCell ⟨b4, 1, none⟩ (.slice va n vc)).cell? ⟨b4, 0, none⟩ = some (.int .u64 (id : Int)) := cell_of_row _ b4 0 _ 31 (0, 0) S10.head
      have q1 : ((w2.setCell ⟨b4, 0, none⟩ (.int .u64 (id : Int))).setCell ⟨b4, 1, none⟩ (.slice va n vc)).cell? ⟨b4, 1, none⟩ = some (.slice va n vc) := cell_of_row _ b4 1 _ 31 (0, 0) S10.head
      have HS := Hid.mk' S10
      clear S3 S10 hb2 hb3 hb4
      go_wp2
      refine bodyPost_ret (v := .agg #[.int .u64 (id : Int), .slice va n vc]) (by simp [results, Yba.results23, go_sem, q0, q1]) rfl ?_
      exact ⟨_, _, rfl, HS.out.base, by rw [show afterL k fr ss = ss by unfold afterL; rw [if_neg k3, if_neg k2]]; exact HR.out.keep HS.out.base⟩
end Go.Proofs.Ybulkcdkc
