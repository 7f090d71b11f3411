import Derived.Test.YbulkcdkcHld
namespace Go.Proofs.Ybulkcdkc
open Go.RowKit

theorem Yba.info69 : (Yba.prog.info? 69).map (fun i => (i.zero, i.size, i.bytes)) = some (some (.agg #[.int .u64 0, .int .u8 0, .string ⟨#[]⟩, .int .u64 0, .int .u64 0, .int .i64 0, .pointer none, .bool false]), 8, 72) := by kernel_rfl
theorem Src.cells {w : World} {g : Nat} {cs : Array Value} {t : TypeId} (hg : w.heap[g]? = some (.cells cs t (0, 0))) (h1 : ∀ u ∈ cs.toList, u.oneCell' = true) : Src w cs.size (.slice (some ⟨g, 0, none⟩) 1 1) 1 cs.toList := by
  refine ⟨by simp, h1, some ⟨g, 0, none⟩, 1, rfl, (fun h => by cases h), (fun a ha => ?_)⟩
  cases ha
  intro j v hj
  rw [addr0, cell_of_row w g j _ t (0, 0) hg]
  simpa using hj
/-- The wrap of d + 1. -/
def succU (d : Nat) : Nat := (d + 1) % 18446744073709551616

set_option maxHeartbeats 1600000 in
set_option maxRecDepth 100000 in
theorem decide_any {w0 w : World} {bco : Nat} {cs : Array Value} {vcar : Value} {ds : List Dec} {rs : List Res} (S : Sep w0 w (Res.blk bco cs 60 :: Res.row 69 8 vcar ds.length (ccells ds) :: rs)) (dec : Nat) (h11 : cs[11]? = some (.int .u64 dec)) (h12 : cs[12]? = some vcar) (hds : ds.length ≤ 400) :
    Calls Yba.prog 16 #[.pointer (some ⟨bco, 0, none⟩), .agg #[.int .u64 0, .int .u8 5, .string ⟨#[]⟩, .int .u64 0, .int .u64 0]] w fun r w' => ∃ v vcar', r = .returned v ∧ Sep w0 w' (Res.blk bco ((cs.setIfInBounds 11 (.int .u64 (succU dec))).setIfInBounds 12 vcar') 60 :: Res.row 69 8 vcar' (ds.length + 1) (ccells (ds ++ [⟨succU dec, 5, ⟨#[]⟩, 0⟩])) :: rs) := by
  obtain ⟨i69, hi69, hz69, hs69, hb69⟩ := info_parts Yba.info69
  obtain ⟨n, hn⟩ : ∃ n, ds.length = n := ⟨_, rfl⟩
  rw [hn] at S hds
  obtain ⟨va, vc, hvc⟩ := own_sliceB (show w.ownsRow 0 69 8 vcar n (ccells ds) from S.tail.head)
  subst hvc
  have HN := Hid.mk' hn
  obtain ⟨nd, hnd⟩ : ∃ nd, succU dec = nd := ⟨_, rfl⟩
  have hw : IntKind.u64.wrap ((dec : Int) + 1) = (nd : Int) := by
    rw [← hnd]; unfold succU
    simp [IntKind.wrap_u64]
  have HND := Hid.mk' hnd
  have l11 : 11 < cs.size := (Array.getElem?_eq_some_iff.1 h11).1
  have l12 : 12 < cs.size := (Array.getElem?_eq_some_iff.1 h12).1
  obtain ⟨b3, hb3⟩ : ∃ b3, w.heap.size = b3 := ⟨_, rfl⟩
  have S1 := S.blkAt #[.int .u64 0, .int .u8 5, .string ⟨#[]⟩, .int .u64 0, .int .u64 0] 66 hb3
  clear S hn hnd
  go_enter Yba.func16, Yba.ntmps16
  go_upto_region 1 with fail
  clear hb3
  generalize (w.alloc (.cells #[.int .u64 0, .int .u8 5, .string ⟨#[]⟩, .int .u64 0, .int .u64 0] 66)) = w1 at *
  have hb : w1.heap[bco]? = _ := S1.tail.head
  have c11 : w1.cell? ⟨bco, 11, none⟩ = some (.int .u64 dec) := by rw [cell_of_row w1 bco 11 _ 60 (0, 0) hb]; exact h11
  have f11 : w1.frozen? ⟨bco, 11, none⟩ = false := frozen_of_row w1 bco 11 _ 60 hb
  have S2 := (S1.p2.blkSet 11 (.int .u64 nd)).p2
  clear hb S1
  go_upto_region 2 with fail
  generalize (w1.setCell ⟨bco, 11, none⟩ (.int .u64 nd)) = w2 at *
  clear c11 f11
  have hb : w2.heap[bco]? = _ := S2.tail.head
  have hb3 : w2.heap[b3]? = _ := S2.head
  have c11 : w2.cell? ⟨bco, 11, none⟩ = some (.int .u64 nd) := by rw [cell_of_row w2 bco 11 _ 60 (0, 0) hb]; simp [l11]
  have c0 : w2.cell? ⟨b3, 0, none⟩ = some (.int .u64 0) := cell_of_row w2 b3 0 _ 66 (0, 0) hb3
  have f0 : w2.frozen? ⟨b3, 0, none⟩ = false := frozen_of_row w2 b3 0 _ 66 hb3
  have S3 : Sep w0 (w2.setCell ⟨b3, 0, none⟩ (.int .u64 nd)) (Res.blk b3 #[.int .u64 nd, .int .u8 5, .string ⟨#[]⟩, .int .u64 0, .int .u64 0] 66 :: Res.blk bco (cs.setIfInBounds 11 (.int .u64 nd)) 60 :: Res.row 69 8 (.slice va n vc) n (ccells ds) :: rs) := S2.blkSet 0 (.int .u64 nd)
  clear hb hb3 S2
  go_upto_region 3 with fail
  generalize (w2.setCell ⟨b3, 0, none⟩ (.int .u64 nd)) = w3 at *
  clear c11 c0 f0
  have Sa := S3.newBlk #[.int .u64 nd, .int .u8 5, .string ⟨#[]⟩, .int .u64 0, .int .u64 0, .int .i64 0, .pointer none, .bool false] 69
  have Sq := Sa.quiet ((Keeps.refl (fun _ => False) _).drew)
  obtain ⟨g8, hg8⟩ : ∃ g8, w3.heap.size = g8 := ⟨_, rfl⟩
  rw [hg8] at Sa Sq
  have p0 : w3.cell? ⟨b3, 0, none⟩ = some (.int .u64 nd) := cell_of_row _ b3 0 _ 66 (0, 0) S3.head
  have p1 : w3.cell? ⟨b3, 1, none⟩ = some (.int .u8 5) := cell_of_row _ b3 1 _ 66 (0, 0) S3.head
  have p2 : w3.cell? ⟨b3, 2, none⟩ = some (.string ⟨#[]⟩) := cell_of_row _ b3 2 _ 66 (0, 0) S3.head
  have p3 : w3.cell? ⟨b3, 3, none⟩ = some (.int .u64 0) := cell_of_row _ b3 3 _ 66 (0, 0) S3.head
  have p4 : w3.cell? ⟨b3, 4, none⟩ = some (.int .u64 0) := cell_of_row _ b3 4 _ 66 (0, 0) S3.head
  have p9 : w3.cell? ⟨bco, 12, none⟩ = some (.slice va n vc) := by rw [cell_of_row _ bco 12 _ 60 (0, 0) S3.tail.head]; simp [h12]
  have q0 : (w3.alloc (.cells #[.int .u64 nd, .int .u8 5, .string ⟨#[]⟩, .int .u64 0, .int .u64 0, .int .i64 0, .pointer none, .bool false] 69)).cell? ⟨b3, 0, none⟩ = some (.int .u64 nd) := cell_of_row _ b3 0 _ 66 (0, 0) Sa.tail.head
  have q1 : (w3.alloc (.cells #[.int .u64 nd, .int .u8 5, .string ⟨#[]⟩, .int .u64 0, .int .u64 0, .int .i64 0, .pointer none, .bool false] 69)).cell? ⟨b3, 1, none⟩ = some (.int .u8 5) := cell_of_row _ b3 1 _ 66 (0, 0) Sa.tail.head
  have q2 : (w3.alloc (.cells #[.int .u64 nd, .int .u8 5, .string ⟨#[]⟩, .int .u64 0, .int .u64 0, .int .i64 0, .pointer none, .bool false] 69)).cell? ⟨b3, 2, none⟩ = some (.string ⟨#[]⟩) := cell_of_row _ b3 2 _ 66 (0, 0) Sa.tail.head
  have q3 : (w3.alloc (.cells #[.int .u64 nd, .int .u8 5, .string ⟨#[]⟩, .int .u64 0, .int .u64 0, .int .i64 0, .pointer none, .bool false] 69)).cell? ⟨b3, 3, none⟩ = some (.int .u64 0) := cell_of_row _ b3 3 _ 66 (0, 0) Sa.tail.head
  have q4 : (w3.alloc (.cells #[.int .u64 nd, .int .u8 5, .string ⟨#[]⟩, .int .u64 0, .int .u64 0, .int .i64 0, .pointer none, .bool false] 69)).cell? ⟨b3, 4, none⟩ = some (.int .u64 0) := cell_of_row _ b3 4 _ 66 (0, 0) Sa.tail.head
  have q9 : (w3.alloc (.cells #[.int .u64 nd, .int .u8 5, .string ⟨#[]⟩, .int .u64 0, .int .u64 0, .int .i64 0, .pointer none, .bool false] 69)).cell? ⟨bco, 12, none⟩ = some (.slice va n vc) := by rw [cell_of_row _ bco 12 _ 60 (0, 0) Sa.tail.tail.head]; simp [h12]
  have hO : (w3.alloc (.cells #[.int .u64 nd, .int .u8 5, .string ⟨#[]⟩, .int .u64 0, .int .u64 0, .int .i64 0, .pointer none, .bool false] 69)).drew.ownsRow 0 69 8 (.slice va n vc) n (ccells ds) := Sq.p4.head
  have hso : Src (w3.alloc (.cells #[.int .u64 nd, .int .u8 5, .string ⟨#[]⟩, .int .u64 0, .int .u64 0, .int .i64 0, .pointer none, .bool false] 69)).drew 8 (.slice (some ⟨g8, 0, none⟩) 1 1) 1 #[.int .u64 nd, .int .u8 5, .string ⟨#[]⟩, .int .u64 0, .int .u64 0, .int .i64 0, .pointer none, .bool false].toList := Src.cells (cs := #[.int .u64 nd, .int .u8 5, .string ⟨#[]⟩, .int .u64 0, .int .u64 0, .int .i64 0, .pointer none, .bool false]) (t := 69) Sq.head (by simp [Value.oneCell'])
  go_cut [] from 17 to 27 (fun wc => ∃ vcar', Sep w0 wc (Res.blk bco ((cs.setIfInBounds 11 (.int .u64 nd)).setIfInBounds 12 vcar') 60 :: Res.row 69 8 vcar' (n + 1) (ccells ds ++ #[.int .u64 nd, .int .u8 5, .string ⟨#[]⟩, .int .u64 0, .int .u64 0, .int .i64 0, .pointer none, .bool false].toList) :: rs))
  case first =>
    refine wp_region_noPanic ?_
    go_region_law (refine step_app rfl (.tmp 21) (.tmp 24) 52 rfl 69 i69 (.agg #[.int .u64 0, .int .u8 0, .string ⟨#[]⟩, .int .u64 0, .int .u64 0, .int .i64 0, .pointer none, .bool false]) 8 72 Yba.underlying52 hi69 hz69 hs69 hb69 rfl (by omega) (.slice va n vc) n (ccells ds) rfl hO (.slice (some ⟨g8, 0, none⟩) 1 1) rfl 1 #[.int .u64 nd, .int .u8 5, .string ⟨#[]⟩, .int .u64 0, .int .u64 0, .int .i64 0, .pointer none, .bool false].toList hso (by unfold maxLen; omega) (by omega) ?_; intro x9 w9 hA9 hn9; obtain ⟨xa, xc, rfl⟩ := own_sliceB hA9.own; have S9 := Sq.p4.app hA9; have m1 : w9.heap[bco]? = _ := S9.p4.head; have r9 : w9.cell? ⟨bco, 12, none⟩ = some (.slice va n vc) := (by rw [cell_of_row _ bco 12 _ 60 (0, 0) m1]; simp [h12]); have r8 : w9.frozen? ⟨bco, 12, none⟩ = false := frozen_of_row _ bco 12 _ 60 m1; have S10 := S9.p4.blkSet 12 (.slice xa (n + 1) xc))
    all_goals
      refine NoPanic.normal ?_
      have HS := Hid.mk' S10
      clear S10 S9 m1 r9 r8 hA9
      go_wp2
      go_meet
      exact ⟨_, HS.out.p3.tail.p3.tail⟩
  case rest =>
    clear hO hso Sa Sq S3 hg8 p0 p1 p2 p3 p4 p9 q0 q1 q2 q3 q4 q9
    obtain ⟨vcar', S⟩ := hcut
    obtain ⟨xa, xc, hx⟩ := own_sliceB (show wc.ownsRow 0 69 8 vcar' (n + 1) _ from S.tail.head)
    subst hx
    obtain ⟨n1, hn1⟩ : ∃ n1, n + 1 = n1 := ⟨_, rfl⟩
    rw [hn1] at S
    have hb : wc.heap[bco]? = _ := S.head
    obtain ⟨g, cx, hgx, -, -, -⟩ := own_atS (show wc.ownsRow 0 69 8 (.slice xa n1 xc) n1 _ from S.tail.head) (by omega)
    injection hgx with e1 _ e3
    subst e1
    subst e3
    have r9 : wc.cell? ⟨bco, 12, none⟩ = some (.slice (some ⟨g, 0, none⟩) n1 xc) := by rw [cell_of_row _ bco 12 _ 60 (0, 0) hb]; simp [l12]
    have y0 : (n1 : Int) - 1 = (n : Int) := by omega
    have y1 : (n : Int) < (n1 : Int) := by omega
    have y2 : (0 : Int) ≤ (n : Int) := by omega
    have HS := Hid.mk' S
    have HN1 := Hid.mk' hn1
    have hn1b : n1 ≤ 1000 := by omega
    clear S hb hn1
    go_upto_region 4 with fail
    go_quiet (fail)
    have S2 := HS.out.quiet ((Keeps.refl (fun _ => False) wc).drewN nq)
    clear r9
    go_wp2
    go_ret
    refine ⟨⟨_, rfl⟩, .slice (some ⟨g, 0, none⟩) n1 xc, ?_⟩
    rw [HN.out, HND.out, ccells_append, HN1.out]
    exact S2
end Go.Proofs.Ybulkcdkc
