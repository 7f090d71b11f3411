import Derived.Test.YbulkcdcoAdj
import Derived.Test.YbulkcdcoFn
namespace Go.Proofs.Ybulkcdco
open Go.RowKit

theorem Yba.infoC3 : (Yba.prog.info? 3).map (fun i => (i.zero, i.size, i.bytes)) = some (some (.int .i64 0), 1, 8) := by kernel_rfl

/-- The others stand while the first turns. -/
theorem Sep.others {w0 w w1 : World} {r : Res} {rs : List Res} (S : Sep w0 w (r :: rs)) (k : Keeps r.F w w1) : Sep w0 w1 rs := by
  have hd := List.pairwise_cons.1 S.dis
  refine ⟨S.base.trans k (fun b hb hF => by have := S.new r (by simp) b hF; omega), fun s hs => ?_, hd.2, fun s hs => S.new s (by simp [hs])⟩
  exact s.keep w w1 _ (S.all s (by simp [hs])) k (fun b hb hr => hd.1 s hs b hr hb)
theorem Sep.adjApp {w0 w w1 : World} {g N n n' : Nat} {vs : List Value} {A : List (List Nat)} {rs : List Res} {xs xs' : List Value} (S : Sep w0 w (Res.adj g N vs A :: rs)) {j : Nat} {v v' : Value} (hv : vs[j]? = some v) (hA : App 3 1 w v n xs v' w1 n' xs') :
    Sep w0 w1 rs ∧ w1.cell? ⟨g, j, none⟩ = some v ∧ w1.frozen? ⟨g, j, none⟩ = false := by
  have h : Adj w g N vs A := S.head
  have hk : Keeps (AF g vs) w w1 := hA.keeps.mono (fun b _ hb => .inr ⟨j, v, hv, hb⟩)
  refine ⟨S.others hk, ?_⟩
  have ho := hA.keeps.own h.out (fun b hb e => h.gne hv (by simp [Value.ownBlock] at hb; subst hb; exact e))
  have hj : j < vs.length := (List.getElem?_eq_some_iff.1 hv).1
  rw [ho.cellAt j (by rw [h.vlen] at hj; omega)]
  exact ⟨hv, ho.frozenAt j⟩
theorem own_sliceB {w : World} {e : TypeId} {z : Nat} {v : Value} {n : Nat} {xs : List Value} (h : w.ownsRow 0 e z v n xs) : ∃ a c, v = .slice a n c := by
  rcases h.2 with ⟨rfl, rfl⟩ | ⟨g, cap, cur, rfl, rest⟩
  · exact ⟨none, 0, rfl⟩
  · exact ⟨_, cap, rfl⟩

theorem Adj.get {w : World} {g N : Nat} {vs : List Value} {A : List (List Nat)} (h : Adj w g N vs A) {j : Nat} {v : Value} (hv : vs[j]? = some v) : w.cell? ⟨g, j, none⟩ = some v ∧ w.frozen? ⟨g, j, none⟩ = false ∧ w.ownsRow 0 3 1 v (A.getD j []).length (nats (A.getD j [])) := by
  have hj : j < vs.length := (List.getElem?_eq_some_iff.1 hv).1
  refine ⟨?_, h.out.frozenAt j, h.own j _ hv⟩
  rw [h.out.cellAt j (by rw [h.vlen] at hj; omega), hv]

section
variable {w0 w : World} {pg go gi N : Nat} {c2 c3 c4 c5 c6 : Value} {vso vsi : List Value} {Ao Ai : List (List Nat)} {rs : List Res}

set_option maxHeartbeats 3200000 in
theorem gadd_any (S : Sep w0 w (Res.blk pg #[.slice (some ⟨go, 0, none⟩) N N, .slice (some ⟨gi, 0, none⟩) N N, c2, c3, c4, c5, c6] 80 :: Res.adj go N vso Ao :: Res.adj gi N vsi Ai :: rs)) (a b : Nat) (ha : a < N) (hb : b < N) (hla : (Ao.getD a []).length ≤ 10000) (hlb : (Ai.getD b []).length ≤ 10000) :
    Calls Yba.prog 19 #[.pointer (some ⟨pg, 0, none⟩), .int .i64 a, .int .i64 b] w fun r w' => r = .returned (.tuple #[]) ∧ ∃ vso' vsi',
      Sep w0 w' (Res.blk pg #[.slice (some ⟨go, 0, none⟩) N N, .slice (some ⟨gi, 0, none⟩) N N, c2, c3, c4, c5, c6] 80 :: Res.adj go N vso' (Ao.set a (Ao.getD a [] ++ [b])) :: Res.adj gi N vsi' (Ai.set b (Ai.getD b [] ++ [a])) :: rs) := by
  obtain ⟨i3, hi3, hz3, hs3, hb3⟩ := info_parts Yba.infoC3
  have x0 : (a : Int) < (N : Int) := by omega
  have x1 : (b : Int) < (N : Int) := by omega
  have x2 : (0 : Int) ≤ (a : Int) := by omega
  have x3 : (0 : Int) ≤ (b : Int) := by omega
  obtain ⟨v, hv, hvc, hvf, hvo⟩ := Adj.at_ (show Adj w go N vso Ao from S.tail.head) a ha
  have hblk : w.heap[pg]? = _ := S.head
  have p0 : w.cell? ⟨pg, 0, none⟩ = some (.slice (some ⟨go, 0, none⟩) N N) := by simp [World.cell?, hblk]
  have ka := (Keeps.refl (fun _ => False) w).alloc (.cells #[.int .i64 (b : Int)] 3)
  have Sa := S.p2.quiet ka
  have Sq := Sa.quiet ((Keeps.refl (fun _ => False) _).drew)
  have hblka : (w.alloc (.cells #[.int .i64 (b : Int)] 3)).heap[pg]? = _ := Sa.tail.head
  have p0a : (w.alloc (.cells #[.int .i64 (b : Int)] 3)).cell? ⟨pg, 0, none⟩ = some (.slice (some ⟨go, 0, none⟩) N N) := by simp [World.cell?, hblka]
  obtain ⟨hvca, hvfa, _⟩ := Adj.get (show Adj (w.alloc (.cells #[.int .i64 (b : Int)] 3)) go N vso Ao from Sa.head) hv
  obtain ⟨_, _, hvoq⟩ := Adj.get (show Adj (w.alloc (.cells #[.int .i64 (b : Int)] 3)).drew go N vso Ao from Sq.head) hv
  have hso : Src ((w.alloc (.cells #[.int .i64 (b : Int)] 3)).drew) 1 (.slice (some ⟨w.heap.size, 0, none⟩) 1 1) 1 [.int .i64 (b : Int)] := Src.one_new w.drew (.int .i64 (b : Int)) 3 rfl
  clear hvo
  go_enter Yba.func19, Yba.ntmps19
  go_wp2
  go_cut [] from 6 to 21 (fun wc => ∃ vso', Sep w0 wc (Res.blk pg #[.slice (some ⟨go, 0, none⟩) N N, .slice (some ⟨gi, 0, none⟩) N N, c2, c3, c4, c5, c6] 80 :: Res.adj go N vso' (Ao.set a (Ao.getD a [] ++ [b])) :: Res.adj gi N vsi Ai :: rs))
  case first =>
    refine wp_region_noPanic ?_
    go_region_law ((refine step_app rfl (.tmp 17) (.tmp 19) 28 rfl 3 i3 (.int .i64 0) 1 8 Yba.underlying28 hi3 hz3 hs3 hb3 rfl (by omega) v (Ao.getD a []).length (nats (Ao.getD a [])) rfl hvoq (.slice (some ⟨w.heap.size, 0, none⟩) 1 1) rfl 1 [.int .i64 (b : Int)] hso (by unfold maxLen; omega) (by omega) ?_; intro x9 w9 hA9 hn9; obtain ⟨ao9, cp9, rfl⟩ := own_sliceB hA9.own; obtain ⟨S9, g0, g1⟩ := Sq.adjApp hv hA9; have hblk9 : w9.heap[pg]? = _ := S9.head; have p09 : w9.cell? ⟨pg, 0, none⟩ = some (.slice (some ⟨go, 0, none⟩) N N) := by simp [World.cell?, hblk9]))
    all_goals
      have S10 := (Sq.adjPush hv rfl hA9).p2
      refine NoPanic.normal ?_
      go_wp2
      go_meet
      case rel => exact ⟨_, S10⟩
  case rest =>
    clear p0 p0a hblk hblka hvc hvf hvca hvfa hvoq hso Sa Sq ka S hv
    obtain ⟨vso', S⟩ := hcut
    obtain ⟨v, hv, hvc, hvf, hvo⟩ := Adj.at_ (show Adj wc gi N vsi Ai from S.tail.tail.head) b hb
    have hblk : wc.heap[pg]? = _ := S.head
    have p0 : wc.cell? ⟨pg, 1, none⟩ = some (.slice (some ⟨gi, 0, none⟩) N N) := by simp [World.cell?, hblk]
    have ka := (Keeps.refl (fun _ => False) wc).alloc (.cells #[.int .i64 (a : Int)] 3)
    have Sa := S.p3.quiet ka
    have Sq := Sa.quiet ((Keeps.refl (fun _ => False) _).drew)
    have hblka : (wc.alloc (.cells #[.int .i64 (a : Int)] 3)).heap[pg]? = _ := Sa.tail.head
    have p0a : (wc.alloc (.cells #[.int .i64 (a : Int)] 3)).cell? ⟨pg, 1, none⟩ = some (.slice (some ⟨gi, 0, none⟩) N N) := by simp [World.cell?, hblka]
    obtain ⟨hvca, hvfa, _⟩ := Adj.get (show Adj (wc.alloc (.cells #[.int .i64 (a : Int)] 3)) gi N vsi Ai from Sa.head) hv
    obtain ⟨_, _, hvoq⟩ := Adj.get (show Adj (wc.alloc (.cells #[.int .i64 (a : Int)] 3)).drew gi N vsi Ai from Sq.head) hv
    have hso : Src ((wc.alloc (.cells #[.int .i64 (a : Int)] 3)).drew) 1 (.slice (some ⟨wc.heap.size, 0, none⟩) 1 1) 1 [.int .i64 (a : Int)] := Src.one_new wc.drew (.int .i64 (a : Int)) 3 rfl
    clear hvo
    go_wp2
    refine wp_region_noPanic ?_
    go_region_law ((refine step_app rfl (.tmp 33) (.tmp 35) 28 rfl 3 i3 (.int .i64 0) 1 8 Yba.underlying28 hi3 hz3 hs3 hb3 rfl (by omega) v (Ai.getD b []).length (nats (Ai.getD b [])) rfl hvoq (.slice (some ⟨wc.heap.size, 0, none⟩) 1 1) rfl 1 [.int .i64 (a : Int)] hso (by unfold maxLen; omega) (by omega) ?_; intro x9 w9 hA9 hn9; obtain ⟨ao9, cp9, rfl⟩ := own_sliceB hA9.own; obtain ⟨S9, g0, g1⟩ := Sq.adjApp hv hA9; have hblk9 : w9.heap[pg]? = _ := S9.head; have p09 : w9.cell? ⟨pg, 1, none⟩ = some (.slice (some ⟨gi, 0, none⟩) N N) := by simp [World.cell?, hblk9]))
    all_goals
      have S10 := (Sq.adjPush hv rfl hA9).p3.p3
      refine NoPanic.normal ?_
      go_wp2
      go_end0
      exact ⟨rfl, _, _, S10⟩
end
end Go.Proofs.Ybulkcdco
