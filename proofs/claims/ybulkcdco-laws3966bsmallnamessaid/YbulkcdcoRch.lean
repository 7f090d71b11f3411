import Derived.Test.YbulkcdcoStep
import Derived.Test.YbulkcdcoSr
import Derived.Deep.LoopGhost
namespace Go.Proofs.Ybulkcdco
open Go.RowKit

theorem Sep.p7 {w0 w : World} {a b c d e f g : Res} {rs : List Res} (S : Sep w0 w (a :: b :: c :: d :: e :: f :: g :: rs)) : Sep w0 w (g :: a :: b :: c :: d :: e :: f :: rs) :=
  S.perm (List.perm_middle (l₁ := [a, b, c, d, e, f]) (l₂ := rs))
theorem Sep.r36 {w0 w : World} {a b c d e f : Res} {rs : List Res} (S : Sep w0 w (a :: b :: c :: d :: e :: f :: rs)) : Sep w0 w (a :: b :: d :: e :: f :: c :: rs) :=
  S.perm (List.Perm.cons _ (List.Perm.cons _ (List.perm_middle (l₁ := [d, e, f]) (l₂ := rs) (a := c)).symm))
theorem Sep.l36 {w0 w : World} {a b c d e f : Res} {rs : List Res} (S : Sep w0 w (a :: b :: d :: e :: f :: c :: rs)) : Sep w0 w (a :: b :: c :: d :: e :: f :: rs) :=
  S.perm (List.Perm.cons _ (List.Perm.cons _ (List.perm_middle (l₁ := [d, e, f]) (l₂ := rs) (a := c))))
/-- The graph in memory. -/
def GrL (pg go gi gf gt N s : Nat) (vso vsi : List Value) (Ao Ai : List (List Nat)) (fs ts : List Nat) (vF vT : Value) (FS TS : List Nat) (rs : List Res) : List Res :=
  Res.blk pg #[.slice (some ⟨go, 0, none⟩) N N, .slice (some ⟨gi, 0, none⟩) N N, .slice (some ⟨gf, 0, none⟩) N N, .slice (some ⟨gt, 0, none⟩) N N, .int .i64 (s : Int), vF, vT] 80 :: Res.adj go N vso Ao :: Res.adj gi N vsi Ai :: Res.row 3 1 (.slice (some ⟨gf, 0, none⟩) N N) N (nats fs) :: Res.row 3 1 (.slice (some ⟨gt, 0, none⟩) N N) N (nats ts) :: Res.row 3 1 vF FS.length (nats FS) :: Res.row 3 1 vT TS.length (nats TS) :: rs

theorem own_zero {w : World} {e : TypeId} {a : Option Addr} {n c : Nat} {xs : List Value} (h : w.ownsRow 0 e 1 (.slice a n c) n xs) : w.ownsRow 0 e 1 (.slice a 0 c) 0 [] := by
  rcases h.2 with ⟨h', _⟩ | ⟨g, cap, cur, h', hb, hg, hnc, hcm, hcs, htake⟩
  · cases h'; exact World.ownsRow_nil _ _ _ _
  · cases h'
    exact ⟨rfl, .inr ⟨g, _, cur, rfl, hb, hg, Nat.zero_le _, hcm, hcs, by simp⟩⟩
/-- A new one-cell block, as a source, stays one while a row turns. -/
theorem Src.stay {w w1 : World} {g : Nat} {u : Value} {t : TypeId} {S : Nat → Prop} (hg : w.heap[g]? = some (.cells #[u] t (0, 0))) (h1 : u.oneCell' = true) (hk : Keeps S w w1) (hS : ¬ S g) : Src w1 1 (.slice (some ⟨g, 0, none⟩) 1 1) 1 [u] := by
  have hg1 := (hk.block g (Array.getElem?_eq_some_iff.1 hg).1 hS).trans hg
  refine ⟨rfl, fun x hx => by simp at hx; subst hx; exact h1, some ⟨g, 0, none⟩, 1, rfl, (fun h => by cases h), (fun a ha => ?_)⟩
  cases ha
  intro j v hj
  have hadd : (⟨g, 0, none⟩ : Addr).add j = ⟨g, j, none⟩ := by unfold Addr.add; split <;> simp_all
  rw [hadd, cell_of_row w1 g j _ t (0, 0) hg1]
  simpa using hj

section
variable {w0 w : World} {pg go gi gf gt N s : Nat} {vso vsi : List Value} {Ao Ai : List (List Nat)} {fs ts : List Nat} {vF vT : Value} {FS TS : List Nat} {rs : List Res}

set_option maxHeartbeats 6400000 in
theorem reach_any (S : Sep w0 w (GrL pg go gi gf gt N s vso vsi Ao Ai fs ts vF vT FS TS rs)) (a b : Nat) (ha : a < N) (hb : b < N) (hN : N ≤ 10000) (hs : s ≤ 100000) (hfl : fs.length = N) (htl : ts.length = N) (hfs : ∀ x, fs.getD x 0 ≤ s) (hts : ∀ x, ts.getD x 0 ≤ s)
    (hAo : ∀ x, (Ao.getD x []).length ≤ 10000 ∧ ∀ y ∈ Ao.getD x [], y < N) (hAi : ∀ x, (Ai.getD x []).length ≤ 10000 ∧ ∀ y ∈ Ai.getD x [], y < N) (hrev : ∀ x y, Nb Ai x y ↔ Nb Ao y x) :
    Calls Yba.prog 18 #[.pointer (some ⟨pg, 0, none⟩), .int .i64 a, .int .i64 b] w fun e w' => ∃ (r : Bool) (s' : Nat) (fs' ts' : List Nat) (vF' vT' : Value) (FS' TS' : List Nat), e = .returned (.bool r) ∧
      Sep w0 w' (GrL pg go gi gf gt N s' vso vsi Ao Ai fs' ts' vF' vT' FS' TS' rs) ∧ s' ≤ s + 1 ∧ fs'.length = N ∧ ts'.length = N ∧ (∀ x, fs'.getD x 0 ≤ s') ∧ (∀ x, ts'.getD x 0 ≤ s') ∧ (r = true ↔ Way (Nb Ao) a b) := by
  obtain ⟨i3, hi3, hz3, hs3, hb3⟩ := info_parts Yba.infoC3
  by_cases hab : a = b
  · subst hab
    go_enter Yba.func18, Yba.ntmps18
    go_wp2
    go_ret
    exact ⟨true, s, fs, ts, vF, vT, FS, TS, rfl, S, by omega, hfl, htl, hfs, hts, by simp; exact .refl _⟩
  have e0 : ((a : Int) == (b : Int)) = false := by simp; omega
  have x0 : (a : Int) < (N : Int) := by omega
  have x1 : (b : Int) < (N : Int) := by omega
  have x2 : (0 : Int) ≤ (a : Int) := by omega
  have x3 : (0 : Int) ≤ (b : Int) := by omega
  unfold GrL at S
  have hblk : w.heap[pg]? = _ := S.head
  have p4 : w.cell? ⟨pg, 4, none⟩ = some (.int .i64 (s : Int)) := by simp [World.cell?, hblk]
  have pf : w.frozen? ⟨pg, 4, none⟩ = false := by simp [World.frozen?, hblk]
  have hss : (s : Int) + 1 = ((s + 1 : Nat) : Int) := by omega
  have S1 := S.blkSet 4 (.int .i64 ((s + 1 : Nat) : Int))
  generalize hs1 : s + 1 = s1 at *
  have HS1 := Hid.mk' hs1
  have hs1b : s1 ≤ 100001 := by omega
  clear hs1 hblk S
  go_enter Yba.func18, Yba.ntmps18
  go_upto_region 4 with fail
  generalize (w.setCell ⟨pg, 4, none⟩ (.int .i64 (s1 : Int))) = w1 at *
  clear p4 pf
  have S1 : Sep w0 w1 (GrL pg go gi gf gt N s1 vso vsi Ao Ai fs ts vF vT FS TS rs) := S1
  go_cut [] from 17 to 36 (fun wc => Sep w0 wc (GrL pg go gi gf gt N s1 vso vsi Ao Ai (fs.set a s1) (ts.set b s1) vF vT FS TS rs))
  case first =>
    unfold GrL at S1
    have hblk : w1.heap[pg]? = _ := S1.head
    have p2 : w1.cell? ⟨pg, 2, none⟩ = some (.slice (some ⟨gf, 0, none⟩) N N) := by simp [World.cell?, hblk]
    have p3 : w1.cell? ⟨pg, 3, none⟩ = some (.slice (some ⟨gt, 0, none⟩) N N) := by simp [World.cell?, hblk]
    have p4 : w1.cell? ⟨pg, 4, none⟩ = some (.int .i64 (s1 : Int)) := by simp [World.cell?, hblk]
    have hrf : w1.ownsRow 0 3 1 (.slice (some ⟨gf, 0, none⟩) N N) N (nats fs) := S1.tail.tail.tail.head
    have hrt : w1.ownsRow 0 3 1 (.slice (some ⟨gt, 0, none⟩) N N) N (nats ts) := S1.tail.tail.tail.tail.head
    have d1 : w1.cell? ⟨gf, a, none⟩ = some (.int .i64 ((fs.getD a 0 : Nat) : Int)) := by rw [hrf.cellAt a (by omega)]; exact nats_get fs a (by omega)
    have d2 : w1.cell? ⟨gt, b, none⟩ = some (.int .i64 ((ts.getD b 0 : Nat) : Int)) := by rw [hrt.cellAt b (by omega)]; exact nats_get ts b (by omega)
    have f1 : w1.frozen? ⟨gf, a, none⟩ = false := hrf.frozenAt a
    have f2 : w1.frozen? ⟨gt, b, none⟩ = false := hrt.frozenAt b
    have S2 := (S1.p4.store a (.int .i64 (s1 : Int))).q4.p5
    have d2' : (w1.setCell ⟨gf, a, none⟩ (.int .i64 (s1 : Int))).cell? ⟨gt, b, none⟩ = some (.int .i64 ((ts.getD b 0 : Nat) : Int)) := by
      rw [(show World.ownsRow _ 0 3 1 (.slice (some ⟨gt, 0, none⟩) N N) N (nats ts) from S2.head).cellAt b (by omega)]; exact nats_get ts b (by omega)
    have f2' : (w1.setCell ⟨gf, a, none⟩ (.int .i64 (s1 : Int))).frozen? ⟨gt, b, none⟩ = false := (show World.ownsRow _ 0 3 1 (.slice (some ⟨gt, 0, none⟩) N N) N (nats ts) from S2.head).frozenAt b
    have S3 := (S2.store b (.int .i64 (s1 : Int))).q5
    rw [← nats_set, ← nats_set] at S3
    have S4 := S3.quiet ((Keeps.refl (fun _ => False) _).drew)
    generalize fs.getD a 0 = fa at *
    generalize ts.getD b 0 = tb at *
    clear hrf hrt hblk S1 S2
    go_region
    all_goals
      go_wp2
      go_meet
      case rel => exact S4
  case rest =>
    clear S1
    have S1 := hcut
    clear hcut
    generalize hfs1 : fs.set a s1 = fs1 at *
    generalize hts1 : ts.set b s1 = ts1 at *
    have HF1 := Hid.mk' hfs1
    have HT1 := Hid.mk' hts1
    clear hfs1 hts1
    go_upto_region 5 with fail
    go_cut [] from 37 to 58 (fun wx => ∃ vF' vT', Sep w0 wx (GrL pg go gi gf gt N s1 vso vsi Ao Ai fs1 ts1 vF' vT' [a] [b] rs))
    case first =>
      unfold GrL at S1
      have hblk : wc.heap[pg]? = _ := S1.head
      obtain ⟨aF, cF, hvF⟩ := own_sliceB (show wc.ownsRow 0 3 1 vF FS.length (nats FS) from S1.tail.tail.tail.tail.tail.head)
      obtain ⟨aT, cT, hvT⟩ := own_sliceB (show wc.ownsRow 0 3 1 vT TS.length (nats TS) from S1.tail.tail.tail.tail.tail.tail.head)
      subst hvF
      subst hvT
      have p5 : wc.cell? ⟨pg, 5, none⟩ = some (.slice aF FS.length cF) := by simp [World.cell?, hblk]
      have p6 : wc.cell? ⟨pg, 6, none⟩ = some (.slice aT TS.length cT) := by simp [World.cell?, hblk]
      have ho1 := own_zero (show wc.ownsRow 0 3 1 (.slice aF FS.length cF) FS.length (nats FS) from S1.tail.tail.tail.tail.tail.head)
      have ho2 := own_zero (show wc.ownsRow 0 3 1 (.slice aT TS.length cT) TS.length (nats TS) from S1.tail.tail.tail.tail.tail.tail.head)
      have SX := (S1.p6.upd1 (r' := Res.row 3 1 (.slice aF 0 cF) 0 []) ho1 (Keeps.refl _ _) (fun b hb => .inl (by cases aF <;> simp [Res.row, Value.ownBlock] at hb ⊢; exact hb))).p7.upd1 (r' := Res.row 3 1 (.slice aT 0 cT) 0 []) ho2 (Keeps.refl _ _) (fun b hb => .inl (by cases aT <;> simp [Res.row, Value.ownBlock] at hb ⊢; exact hb))
      have SX := SX.p2
      have SA := SX.quiet (((Keeps.refl (fun _ => False) wc).alloc (.cells #[.int .i64 (a : Int)] 3)).drew)
      have SAB := SX.quiet ((((Keeps.refl (fun _ => False) wc).alloc (.cells #[.int .i64 (a : Int)] 3)).alloc (.cells #[.int .i64 (b : Int)] 3)).drew)
      have SBA := SX.quiet ((((Keeps.refl (fun _ => False) wc).alloc (.cells #[.int .i64 (b : Int)] 3)).alloc (.cells #[.int .i64 (a : Int)] 3)).drew)
      have h6a : (wc.alloc (.cells #[.int .i64 (a : Int)] 3)).heap[pg]? = _ := SA.tail.tail.head
      have p5a : (wc.alloc (.cells #[.int .i64 (a : Int)] 3)).cell? ⟨pg, 5, none⟩ = some (.slice aF FS.length cF) := cell_of_row _ pg 5 _ 80 (0, 0) h6a
      have p6a : (wc.alloc (.cells #[.int .i64 (a : Int)] 3)).cell? ⟨pg, 6, none⟩ = some (.slice aT TS.length cT) := cell_of_row _ pg 6 _ 80 (0, 0) h6a
      have SB := SX.quiet (((Keeps.refl (fun _ => False) wc).alloc (.cells #[.int .i64 (b : Int)] 3)).drew)
      have h6b : (wc.alloc (.cells #[.int .i64 (b : Int)] 3)).heap[pg]? = _ := SB.tail.tail.head
      have p5b : (wc.alloc (.cells #[.int .i64 (b : Int)] 3)).cell? ⟨pg, 5, none⟩ = some (.slice aF FS.length cF) := cell_of_row _ pg 5 _ 80 (0, 0) h6b
      have p6b : (wc.alloc (.cells #[.int .i64 (b : Int)] 3)).cell? ⟨pg, 6, none⟩ = some (.slice aT TS.length cT) := cell_of_row _ pg 6 _ 80 (0, 0) h6b
      have h6c : ((wc.alloc (.cells #[.int .i64 (a : Int)] 3)).alloc (.cells #[.int .i64 (b : Int)] 3)).heap[pg]? = _ := SAB.tail.tail.head
      have p5c : ((wc.alloc (.cells #[.int .i64 (a : Int)] 3)).alloc (.cells #[.int .i64 (b : Int)] 3)).cell? ⟨pg, 5, none⟩ = some (.slice aF FS.length cF) := cell_of_row _ pg 5 _ 80 (0, 0) h6c
      have p6c : ((wc.alloc (.cells #[.int .i64 (a : Int)] 3)).alloc (.cells #[.int .i64 (b : Int)] 3)).cell? ⟨pg, 6, none⟩ = some (.slice aT TS.length cT) := cell_of_row _ pg 6 _ 80 (0, 0) h6c
      have h6d : ((wc.alloc (.cells #[.int .i64 (b : Int)] 3)).alloc (.cells #[.int .i64 (a : Int)] 3)).heap[pg]? = _ := SBA.tail.tail.head
      have p5d : ((wc.alloc (.cells #[.int .i64 (b : Int)] 3)).alloc (.cells #[.int .i64 (a : Int)] 3)).cell? ⟨pg, 5, none⟩ = some (.slice aF FS.length cF) := cell_of_row _ pg 5 _ 80 (0, 0) h6d
      have p6d : ((wc.alloc (.cells #[.int .i64 (b : Int)] 3)).alloc (.cells #[.int .i64 (a : Int)] 3)).cell? ⟨pg, 6, none⟩ = some (.slice aT TS.length cT) := cell_of_row _ pg 6 _ 80 (0, 0) h6d
      have hFlt : ∀ b, (Value.slice aF 0 cF).ownBlock = some b → b < wc.heap.size := fun b hb => (ho1.lt b hb).2
      have srcA : Src ((wc.alloc (.cells #[.int .i64 (a : Int)] 3)).drew) 1 (.slice (some ⟨wc.heap.size, 0, none⟩) 1 1) 1 [.int .i64 (a : Int)] := Src.one_new wc.drew (.int .i64 (a : Int)) 3 rfl
      have srcAB : Src (((wc.alloc (.cells #[.int .i64 (a : Int)] 3)).alloc (.cells #[.int .i64 (b : Int)] 3)).drew) 1 (.slice (some ⟨wc.heap.size, 0, none⟩) 1 1) 1 [.int .i64 (a : Int)] := Src.stay (w := wc.alloc (.cells #[.int .i64 (a : Int)] 3)) (S := fun _ => False) (heap_alloc_new wc _) rfl (((Keeps.refl _ _).alloc _).drew) (fun h => h)
      have srcBA : Src (((wc.alloc (.cells #[.int .i64 (b : Int)] 3)).alloc (.cells #[.int .i64 (a : Int)] 3)).drew) 1 (.slice (some ⟨wc.heap.size + 1, 0, none⟩) 1 1) 1 [.int .i64 (a : Int)] := by
        have := Src.one_new (wc.alloc (.cells #[.int .i64 (b : Int)] 3)).drew (.int .i64 (a : Int)) 3 rfl
        rw [show (wc.alloc (.cells #[.int .i64 (b : Int)] 3)).drew.heap.size = wc.heap.size + 1 by simp] at this
        exact this
      clear hblk S1 SB SX h6a h6b h6c h6d
      refine wp_region_noPanic ?_
      go_region_law (first
        | (refine step_app rfl (.tmp 43) (.tmp 45) 28 rfl 3 i3 (.int .i64 0) 1 8 Yba.underlying28 hi3 hz3 hs3 hb3 rfl (by omega) (.slice aF 0 cF) 0 [] rfl SA.head (.slice (some ⟨wc.heap.size, 0, none⟩) 1 1) rfl 1 [.int .i64 (a : Int)] srcA (by unfold maxLen; omega) (by omega) ?_; intro x9 w9 hA9 hn9; obtain ⟨a9, c9, e9⟩ := own_sliceB hA9.own; subst e9; have S9 := SA.app hA9; have hb9 : w9.heap[pg]? = _ := S9.tail.tail.head; have q6 : w9.cell? ⟨pg, 6, none⟩ = some (.slice aT TS.length cT) := cell_of_row w9 pg 6 _ 80 (0, 0) hb9; have S9a := S9.quiet ((Keeps.refl (fun _ => False) w9).alloc (.cells #[.int .i64 (b : Int)] 3)); have hb9a : (w9.alloc (.cells #[.int .i64 (b : Int)] 3)).heap[pg]? = _ := S9a.tail.tail.head; have q6a : (w9.alloc (.cells #[.int .i64 (b : Int)] 3)).cell? ⟨pg, 6, none⟩ = some (.slice aT TS.length cT) := cell_of_row _ pg 6 _ 80 (0, 0) hb9a; have srcB := Src.one_new w9 (.int .i64 (b : Int)) 3 rfl)
        | (refine step_app rfl (.tmp 43) (.tmp 45) 28 rfl 3 i3 (.int .i64 0) 1 8 Yba.underlying28 hi3 hz3 hs3 hb3 rfl (by omega) (.slice aF 0 cF) 0 [] rfl SAB.head (.slice (some ⟨wc.heap.size, 0, none⟩) 1 1) rfl 1 [.int .i64 (a : Int)] srcAB (by unfold maxLen; omega) (by omega) ?_; intro x9 w9 hA9 hn9; obtain ⟨a9, c9, e9⟩ := own_sliceB hA9.own; subst e9; have S9 := SAB.app hA9; have hb9 : w9.heap[pg]? = _ := S9.tail.tail.head; have q6 : w9.cell? ⟨pg, 6, none⟩ = some (.slice aT TS.length cT) := cell_of_row w9 pg 6 _ 80 (0, 0) hb9; have S9a := S9.quiet ((Keeps.refl (fun _ => False) w9).alloc (.cells #[.int .i64 (b : Int)] 3)); have hb9a : (w9.alloc (.cells #[.int .i64 (b : Int)] 3)).heap[pg]? = _ := S9a.tail.tail.head; have q6a : (w9.alloc (.cells #[.int .i64 (b : Int)] 3)).cell? ⟨pg, 6, none⟩ = some (.slice aT TS.length cT) := cell_of_row _ pg 6 _ 80 (0, 0) hb9a; have srcB := Src.stay (w := ((wc.alloc (.cells #[.int .i64 (a : Int)] 3)).alloc (.cells #[.int .i64 (b : Int)] 3)).drew) (g := wc.heap.size + 1) (heap_alloc2_new wc _ _) rfl hA9.keeps (fun h => by have := hFlt _ h; omega))
        | (refine step_app rfl (.tmp 43) (.tmp 45) 28 rfl 3 i3 (.int .i64 0) 1 8 Yba.underlying28 hi3 hz3 hs3 hb3 rfl (by omega) (.slice aF 0 cF) 0 [] rfl SBA.head (.slice (some ⟨wc.heap.size + 1, 0, none⟩) 1 1) rfl 1 [.int .i64 (a : Int)] srcBA (by unfold maxLen; omega) (by omega) ?_; intro x9 w9 hA9 hn9; obtain ⟨a9, c9, e9⟩ := own_sliceB hA9.own; subst e9; have S9 := SBA.app hA9; have hb9 : w9.heap[pg]? = _ := S9.tail.tail.head; have q6 : w9.cell? ⟨pg, 6, none⟩ = some (.slice aT TS.length cT) := cell_of_row w9 pg 6 _ 80 (0, 0) hb9; have S9a := S9.quiet ((Keeps.refl (fun _ => False) w9).alloc (.cells #[.int .i64 (b : Int)] 3)); have hb9a : (w9.alloc (.cells #[.int .i64 (b : Int)] 3)).heap[pg]? = _ := S9a.tail.tail.head; have q6a : (w9.alloc (.cells #[.int .i64 (b : Int)] 3)).cell? ⟨pg, 6, none⟩ = some (.slice aT TS.length cT) := cell_of_row _ pg 6 _ 80 (0, 0) hb9a; have srcB := Src.stay (w := ((wc.alloc (.cells #[.int .i64 (b : Int)] 3)).alloc (.cells #[.int .i64 (a : Int)] 3)).drew) (g := wc.heap.size) (heap_alloc2_old wc _ _) rfl hA9.keeps (fun h => by have := hFlt _ h; omega))
        | (refine step_app rfl (.tmp 51) (.tmp 53) 28 rfl 3 i3 (.int .i64 0) 1 8 Yba.underlying28 hi3 hz3 hs3 hb3 rfl (by omega) (.slice aT 0 cT) 0 [] rfl S9a.tail.head _ rfl 1 [.int .i64 (b : Int)] srcB (by unfold maxLen; omega) (by omega) ?_; intro x10 w10 hA10 hn10; obtain ⟨a10, c10, e10⟩ := own_sliceB hA10.own; subst e10; have S10 := S9a.p2.app hA10; have hb10 : w10.heap[pg]? = _ := S10.tail.tail.head; have q5 : w10.cell? ⟨pg, 5, none⟩ = some (.slice aF FS.length cF) := cell_of_row w10 pg 5 _ 80 (0, 0) hb10; have q56 : w10.cell? ⟨pg, 6, none⟩ = some (.slice aT TS.length cT) := cell_of_row w10 pg 6 _ 80 (0, 0) hb10; have q5f : ∀ i, w10.frozen? ⟨pg, i, none⟩ = false := fun i => frozen_of_row w10 pg i _ 80 hb10; have q5f5 := q5f 5; have q5f6 := q5f 6)
        | (refine step_app rfl (.tmp 51) (.tmp 53) 28 rfl 3 i3 (.int .i64 0) 1 8 Yba.underlying28 hi3 hz3 hs3 hb3 rfl (by omega) (.slice aT 0 cT) 0 [] rfl S9.tail.head _ rfl 1 [.int .i64 (b : Int)] srcB (by unfold maxLen; omega) (by omega) ?_; intro x10 w10 hA10 hn10; obtain ⟨a10, c10, e10⟩ := own_sliceB hA10.own; subst e10; have S10 := S9.p2.app hA10; have hb10 : w10.heap[pg]? = _ := S10.tail.tail.head; have q5 : w10.cell? ⟨pg, 5, none⟩ = some (.slice aF FS.length cF) := cell_of_row w10 pg 5 _ 80 (0, 0) hb10; have q56 : w10.cell? ⟨pg, 6, none⟩ = some (.slice aT TS.length cT) := cell_of_row w10 pg 6 _ 80 (0, 0) hb10; have q5f : ∀ i, w10.frozen? ⟨pg, i, none⟩ = false := fun i => frozen_of_row w10 pg i _ 80 hb10; have q5f5 := q5f 5; have q5f6 := q5f 6))
      all_goals
        refine NoPanic.normal ?_
        have S11 := ((S10.p3.blkSet 5 (.slice a9 (0 + 1) c9)).blkSet 6 (.slice a10 (0 + 1) c10)).p2.p3.p7.p7.p7.p7.p7
        go_wp2
        go_meet
        case rel => exact ⟨_, _, S11⟩
    case rest =>
      clear S1
      obtain ⟨vF', vT', S1⟩ := hcut
      have hlt1 : ∀ x, fs.getD x 0 < s1 := fun x => by have := hfs x; have := HS1.out; omega
      have hlt2 : ∀ x, ts.getD x 0 < s1 := fun x => by have := hts x; have := HS1.out; omega
      have F0 := Side.init Ao a s1 N fs hfl ha hlt1
      have B0 := Side.init Ai b s1 N ts htl hb hlt2
      rw [HF1.out] at F0
      rw [HT1.out] at B0
      have D0 : ∀ x, fs1.getD x 0 = s1 → ts1.getD x 0 ≠ s1 := fun x hx hy => by
        rw [← HF1.out, getD_set fs a s1 x (by omega)] at hx
        rw [← HT1.out, getD_set ts b s1 x (by omega)] at hy
        have := hlt1 x; have := hlt2 x
        split at hx <;> split at hy <;> omega
      have hrevW : ∀ x, Way (Nb Ai) b x → Way (Nb Ao) x b := fun x hw => hw.flip.mono (fun p q h => (hrev q p).1 h)
      clear hfs hts hlt1 hlt2 HF1 HT1
      go_wp2
      go_loopg [6] (2 * (unseen s1 fs1 + unseen s1 ts1) + 2) (fun k _ wx => ∃ (fs' ts' FS' TS' : List Nat) (vF' vT' : Value), k = 2 * (unseen s1 fs' + unseen s1 ts') + FS'.length + TS'.length ∧ Side Ao a s1 N fs' FS' ∧ Side Ai b s1 N ts' TS' ∧ (∀ x, fs'.getD x 0 = s1 → ts'.getD x 0 ≠ s1) ∧ Sep w0 wx (GrL pg go gi gf gt N s1 vso vsi Ao Ai fs' ts' vF' vT' FS' TS' rs))
      case atStart => exact ⟨fs1, ts1, [a], [b], vF', vT', by simp, F0, B0, D0, S1⟩
      case round =>
        clear S1 F0 B0 D0
        obtain ⟨fs', ts', FS', TS', vF', vT', hk, F, B, D, S⟩ := hrel
        have hFc := F.cnt
        have hBc := B.cnt
        have hFl := F.len
        have hBl := B.len
        unfold GrL at S
        have hblk : wr.heap[pg]? = _ := S.head
        obtain ⟨aF, cF, hvF⟩ := own_sliceB (show wr.ownsRow 0 3 1 vF' FS'.length (nats FS') from S.tail.tail.tail.tail.tail.head)
        obtain ⟨aT, cT, hvT⟩ := own_sliceB (show wr.ownsRow 0 3 1 vT' TS'.length (nats TS') from S.tail.tail.tail.tail.tail.tail.head)
        subst hvF
        subst hvT
        have p5 : wr.cell? ⟨pg, 5, none⟩ = some (.slice aF FS'.length cF) := by simp [World.cell?, hblk]
        have p6 : wr.cell? ⟨pg, 6, none⟩ = some (.slice aT TS'.length cT) := by simp [World.cell?, hblk]
        by_cases hF0 : FS'.length = 0
        · have hE : FS' = [] := List.eq_nil_of_length_eq_zero hF0
          have hnw : ¬ Way (Nb Ao) a b := by
            rw [hE] at F
            exact F.none (fun h => D b h B.start)
          have g0 : decide ((0 : Int) < (FS'.length : Int)) = false := by simp; omega
          have g0n : decide (0 < FS'.length) = false := by simp; omega
          go_wp2
          go_ret
          exact ⟨false, s1, fs', ts', _, _, FS', TS', rfl, S, Nat.le_refl _, hFl, hBl, F.le, B.le, by simp [hnw]⟩
        have g0 : decide ((0 : Int) < (FS'.length : Int)) = true := by simp; omega
        have g0n : decide (0 < FS'.length) = true := by simp; omega
        by_cases hT0 : TS'.length = 0
        · have hE : TS' = [] := List.eq_nil_of_length_eq_zero hT0
          have hnw : ¬ Way (Nb Ao) a b := fun hw => by
            rw [hE] at B
            exact B.none (b := a) (D a F.start) (hw.flip.mono (fun p q h => (hrev p q).2 h))
          have g1 : decide ((0 : Int) < (TS'.length : Int)) = false := by simp; omega
          go_wp2
          go_ret
          exact ⟨false, s1, fs', ts', _, _, FS', TS', rfl, S, Nat.le_refl _, hFl, hBl, F.le, B.le, by simp [hnw]⟩
        have g1 : decide ((0 : Int) < (TS'.length : Int)) = true := by simp; omega
        obtain ⟨S0, v, hFS⟩ : ∃ S0 v, FS' = S0 ++ [v] := ⟨FS'.dropLast, FS'.getLast (by intro h; simp [h] at hF0), (List.dropLast_concat_getLast _).symm⟩
        obtain ⟨U0, u, hTS⟩ : ∃ U0 u, TS' = U0 ++ [u] := ⟨TS'.dropLast, TS'.getLast (by intro h; simp [h] at hT0), (List.dropLast_concat_getLast _).symm⟩
        have hvk := F.stk v (by simp [hFS])
        have huk := B.stk u (by simp [hTS])
        have hS0l : FS'.length = S0.length + 1 := by rw [hFS]; simp
        have hU0l : TS'.length = U0.length + 1 := by rw [hTS]; simp
        have eF : Res.row 3 1 (.slice aF FS'.length cF) FS'.length (nats FS') = Res.row 3 1 (.slice aF FS'.length cF) (S0.length + 1) (nats (S0 ++ [v])) := by rw [← hFS, ← hS0l]
        have eT : Res.row 3 1 (.slice aT TS'.length cT) TS'.length (nats TS') = Res.row 3 1 (.slice aT TS'.length cT) (U0.length + 1) (nats (U0 ++ [u])) := by rw [← hTS, ← hU0l]
        have SF := S.r36.quiet ((Keeps.refl (fun _ => False) wr).drew)
        rw [eF, eT] at SF
        have p0 : wr.cell? ⟨pg, 0, none⟩ = some (.slice (some ⟨go, 0, none⟩) N N) := by simp [World.cell?, hblk]
        have p1 : wr.cell? ⟨pg, 1, none⟩ = some (.slice (some ⟨gi, 0, none⟩) N N) := by simp [World.cell?, hblk]
        have p2 : wr.cell? ⟨pg, 2, none⟩ = some (.slice (some ⟨gf, 0, none⟩) N N) := by simp [World.cell?, hblk]
        have p3 : wr.cell? ⟨pg, 3, none⟩ = some (.slice (some ⟨gt, 0, none⟩) N N) := by simp [World.cell?, hblk]
        rw [hFS] at F
        rw [hTS] at B
        have HFS := Hid.mk' hS0l
        have HTS := Hid.mk' hU0l
        have HK := Hid.mk' hk
        have hS0b : S0.length ≤ 1000000 := by omega
        have hU0b : U0.length ≤ 1000000 := by omega
        have HET := Hid.mk' eT
        clear hFS hTS hS0l hU0l hk eF eT S hblk hFc hBc
        go_upto_region 7 with fail
        go_cut [108] from 59 to 108 (fun v108 wx => ∃ (r : Bool) (fs2 ts2 FS2 TS2 : List Nat) (vF2 vT2 : Value), v108 = .bool r ∧ Sep w0 wx (GrL pg go gi gf gt N s1 vso vsi Ao Ai fs2 ts2 vF2 vT2 FS2 TS2 rs) ∧ fs2.length = N ∧ ts2.length = N ∧ (∀ x, fs2.getD x 0 ≤ s1) ∧ (∀ x, ts2.getD x 0 ≤ s1) ∧ (r = true → Way (Nb Ao) a b) ∧ (r = false → Side Ao a s1 N fs2 FS2 ∧ Side Ai b s1 N ts2 TS2 ∧ (∀ x, fs2.getD x 0 = s1 → ts2.getD x 0 ≠ s1) ∧ 2 * (unseen s1 fs2 + unseen s1 ts2) + FS2.length + TS2.length < gk))
        case first =>
          by_cases hex : ∃ x ∈ Ao.getD v [], ts'.getD x 0 = s1
          · have hdec : ∀ (r1 : Bool) (j1 : Nat) (fs2 T1 : List Nat), StepI (Ao.getD v []) fs' ts' s1 j1 fs2 T1 → (r1 = false → j1 = (Ao.getD v []).length) → r1 = true := fun r1 j1 fs2 T1 hI1 hf1 => by
              cases r1 with
              | true => rfl
              | false =>
                obtain ⟨x, hx, hxs⟩ := hex
                obtain ⟨i, hi, rfl⟩ := List.getElem_of_mem hx
                exact absurd hxs (hI1.done i _ (by rw [hf1 rfl]; exact hi) (List.getElem?_eq_getElem hi)).2
            refine wp_region_noPanic ?_
            refine wp_region_held_drew (S := fun w' => w'.cell? ⟨pg, 0, none⟩ = some (.slice (some ⟨go, 0, none⟩) N N) ∧ w'.cell? ⟨pg, 2, none⟩ = some (.slice (some ⟨gf, 0, none⟩) N N) ∧ w'.cell? ⟨pg, 3, none⟩ = some (.slice (some ⟨gt, 0, none⟩) N N)) (by kernel_rfl) ⟨p0, p2, p3⟩ (fun hHeld => ?_)
            refine wpAnyH_take (i := 0) (oi := { dst := some 73, op := Op.move (Operand.tmp 0), type := 68, pos := "roles.go:134", after := #[], guard := none }) (v := ?_) rfl (by kernel_rfl) (by kernel_rfl) (by kernel_rfl) (fun _ _ _ h => h) (Or.inl ⟨by rfl, ?_⟩) (by assumption) ?_
            rotate_left
            · intro w hSw; (try dsimp only at hSw); go_simp; (try with_reducible rfl)
            (try simp only [Act.put, List.setIfInBounds_toArray, List.set_cons_zero, List.set_cons_succ])
            refine wpAnyH_take (i := 1) (oi := { dst := some 74, op := Op.move (Operand.tmp 0), type := 68, pos := "roles.go:134", after := #[], guard := none }) (v := ?_) rfl (by kernel_rfl) (by kernel_rfl) (by kernel_rfl) (fun _ _ _ h => h) (Or.inl ⟨by rfl, ?_⟩) (by assumption) ?_
            rotate_left
            · intro w hSw; (try dsimp only at hSw); go_simp; (try with_reducible rfl)
            (try simp only [Act.put, List.setIfInBounds_toArray, List.set_cons_zero, List.set_cons_succ])
            refine wpAnyH_take (i := 2) (oi := { dst := some 75, op := Op.nilCheck (Operand.tmp 74), type := 0, pos := "roles.go:134", after := #[{ on := 1, ground := Ground.data }], guard := none }) (v := ?_) rfl (by kernel_rfl) (by kernel_rfl) (by kernel_rfl) (fun _ _ _ h => h) (Or.inl ⟨by rfl, ?_⟩) (by assumption) ?_
            rotate_left
            · intro w hSw; (try dsimp only at hSw); go_simp; (try with_reducible rfl)
            (try simp only [Act.put, List.setIfInBounds_toArray, List.set_cons_zero, List.set_cons_succ])
            refine wpAnyH_take (i := 3) (oi := { dst := some 76, op := Op.fieldAddr 80 (Operand.tmp 75) 5, type := 0, pos := "roles.go:134", after := #[{ on := 2, ground := Ground.data }], guard := none }) (v := ?_) rfl (by kernel_rfl) (by kernel_rfl) (by kernel_rfl) (fun _ _ _ h => h) (Or.inl ⟨by rfl, ?_⟩) (by assumption) ?_
            rotate_left
            · intro w hSw; (try dsimp only at hSw); go_simp; (try with_reducible rfl)
            (try simp only [Act.put, List.setIfInBounds_toArray, List.set_cons_zero, List.set_cons_succ])
            refine wpAnyH_take (i := 4) (oi := { dst := some 77, op := Op.move (Operand.tmp 0), type := 68, pos := "roles.go:134", after := #[], guard := none }) (v := ?_) rfl (by kernel_rfl) (by kernel_rfl) (by kernel_rfl) (fun _ _ _ h => h) (Or.inl ⟨by rfl, ?_⟩) (by assumption) ?_
            rotate_left
            · intro w hSw; (try dsimp only at hSw); go_simp; (try with_reducible rfl)
            (try simp only [Act.put, List.setIfInBounds_toArray, List.set_cons_zero, List.set_cons_succ])
            refine wpAnyH_take (i := 5) (oi := { dst := some 78, op := Op.nilCheck (Operand.tmp 77), type := 0, pos := "roles.go:134", after := #[{ on := 4, ground := Ground.data }], guard := none }) (v := ?_) rfl (by kernel_rfl) (by kernel_rfl) (by kernel_rfl) (fun _ _ _ h => h) (Or.inl ⟨by rfl, ?_⟩) (by assumption) ?_
            rotate_left
            · intro w hSw; (try dsimp only at hSw); go_simp; (try with_reducible rfl)
            (try simp only [Act.put, List.setIfInBounds_toArray, List.set_cons_zero, List.set_cons_succ])
            refine wpAnyH_take (i := 6) (oi := { dst := some 79, op := Op.fieldAddr 80 (Operand.tmp 78) 0, type := 0, pos := "roles.go:134", after := #[{ on := 5, ground := Ground.data }], guard := none }) (v := ?_) rfl (by kernel_rfl) (by kernel_rfl) (by kernel_rfl) (fun _ _ _ h => h) (Or.inl ⟨by rfl, ?_⟩) (by assumption) ?_
            rotate_left
            · intro w hSw; (try dsimp only at hSw); go_simp; (try with_reducible rfl)
            (try simp only [Act.put, List.setIfInBounds_toArray, List.set_cons_zero, List.set_cons_succ])
            refine wpAnyH_take (i := 7) (oi := { dst := some 80, op := Op.load 66 (Operand.tmp 79), type := 66, pos := "roles.go:134", after := #[{ on := 6, ground := Ground.data }], guard := none }) (v := ?_) rfl (by kernel_rfl) (by kernel_rfl) (by kernel_rfl) (fun _ _ _ h => h) (Or.inl ⟨by rfl, ?_⟩) (by assumption) ?_
            rotate_left
            · intro w hSw; (try dsimp only at hSw); go_simp; (try with_reducible rfl)
            (try simp only [Act.put, List.setIfInBounds_toArray, List.set_cons_zero, List.set_cons_succ])
            refine wpAnyH_take (i := 8) (oi := { dst := some 81, op := Op.move (Operand.tmp 0), type := 68, pos := "roles.go:134", after := #[], guard := none }) (v := ?_) rfl (by kernel_rfl) (by kernel_rfl) (by kernel_rfl) (fun _ _ _ h => h) (Or.inl ⟨by rfl, ?_⟩) (by assumption) ?_
            rotate_left
            · intro w hSw; (try dsimp only at hSw); go_simp; (try with_reducible rfl)
            (try simp only [Act.put, List.setIfInBounds_toArray, List.set_cons_zero, List.set_cons_succ])
            refine wpAnyH_take (i := 9) (oi := { dst := some 82, op := Op.nilCheck (Operand.tmp 81), type := 0, pos := "roles.go:134", after := #[{ on := 8, ground := Ground.data }], guard := none }) (v := ?_) rfl (by kernel_rfl) (by kernel_rfl) (by kernel_rfl) (fun _ _ _ h => h) (Or.inl ⟨by rfl, ?_⟩) (by assumption) ?_
            rotate_left
            · intro w hSw; (try dsimp only at hSw); go_simp; (try with_reducible rfl)
            (try simp only [Act.put, List.setIfInBounds_toArray, List.set_cons_zero, List.set_cons_succ])
            refine wpAnyH_take (i := 10) (oi := { dst := some 83, op := Op.fieldAddr 80 (Operand.tmp 82) 2, type := 0, pos := "roles.go:134", after := #[{ on := 9, ground := Ground.data }], guard := none }) (v := ?_) rfl (by kernel_rfl) (by kernel_rfl) (by kernel_rfl) (fun _ _ _ h => h) (Or.inl ⟨by rfl, ?_⟩) (by assumption) ?_
            rotate_left
            · intro w hSw; (try dsimp only at hSw); go_simp; (try with_reducible rfl)
            (try simp only [Act.put, List.setIfInBounds_toArray, List.set_cons_zero, List.set_cons_succ])
            refine wpAnyH_take (i := 11) (oi := { dst := some 84, op := Op.load 28 (Operand.tmp 83), type := 28, pos := "roles.go:134", after := #[{ on := 10, ground := Ground.data }], guard := none }) (v := ?_) rfl (by kernel_rfl) (by kernel_rfl) (by kernel_rfl) (fun _ _ _ h => h) (Or.inl ⟨by rfl, ?_⟩) (by assumption) ?_
            rotate_left
            · intro w hSw; (try dsimp only at hSw); go_simp; (try with_reducible rfl)
            (try simp only [Act.put, List.setIfInBounds_toArray, List.set_cons_zero, List.set_cons_succ])
            refine wpAnyH_take (i := 12) (oi := { dst := some 85, op := Op.move (Operand.tmp 0), type := 68, pos := "roles.go:134", after := #[], guard := none }) (v := ?_) rfl (by kernel_rfl) (by kernel_rfl) (by kernel_rfl) (fun _ _ _ h => h) (Or.inl ⟨by rfl, ?_⟩) (by assumption) ?_
            rotate_left
            · intro w hSw; (try dsimp only at hSw); go_simp; (try with_reducible rfl)
            (try simp only [Act.put, List.setIfInBounds_toArray, List.set_cons_zero, List.set_cons_succ])
            refine wpAnyH_take (i := 13) (oi := { dst := some 86, op := Op.nilCheck (Operand.tmp 85), type := 0, pos := "roles.go:134", after := #[{ on := 12, ground := Ground.data }], guard := none }) (v := ?_) rfl (by kernel_rfl) (by kernel_rfl) (by kernel_rfl) (fun _ _ _ h => h) (Or.inl ⟨by rfl, ?_⟩) (by assumption) ?_
            rotate_left
            · intro w hSw; (try dsimp only at hSw); go_simp; (try with_reducible rfl)
            (try simp only [Act.put, List.setIfInBounds_toArray, List.set_cons_zero, List.set_cons_succ])
            refine wpAnyH_take (i := 14) (oi := { dst := some 87, op := Op.fieldAddr 80 (Operand.tmp 86) 3, type := 0, pos := "roles.go:134", after := #[{ on := 13, ground := Ground.data }], guard := none }) (v := ?_) rfl (by kernel_rfl) (by kernel_rfl) (by kernel_rfl) (fun _ _ _ h => h) (Or.inl ⟨by rfl, ?_⟩) (by assumption) ?_
            rotate_left
            · intro w hSw; (try dsimp only at hSw); go_simp; (try with_reducible rfl)
            (try simp only [Act.put, List.setIfInBounds_toArray, List.set_cons_zero, List.set_cons_succ])
            refine wpAnyH_take (i := 15) (oi := { dst := some 88, op := Op.load 28 (Operand.tmp 87), type := 28, pos := "roles.go:134", after := #[{ on := 14, ground := Ground.data }], guard := none }) (v := ?_) rfl (by kernel_rfl) (by kernel_rfl) (by kernel_rfl) (fun _ _ _ h => h) (Or.inl ⟨by rfl, ?_⟩) (by assumption) ?_
            rotate_left
            · intro w hSw; (try dsimp only at hSw); go_simp; (try with_reducible rfl)
            (try simp only [Act.put, List.setIfInBounds_toArray, List.set_cons_zero, List.set_cons_succ])
            refine wpAnyH_ready (rs := [16]) (by kernel_rfl) (by simp) ?_
            refine AllReadyH.cons (o := { dst := some 89, op := Op.call { callee := Callee.value (Operand.func 22), args := #[Operand.tmp 73, Operand.tmp 76, Operand.tmp 80, Operand.tmp 84, Operand.tmp 88], argTypes := #[68, 82, 66, 28, 28] }, type := 4, pos := "roles.go:134", after := #[{ on := 0, ground := Ground.data }, { on := 3, ground := Ground.data }, { on := 7, ground := Ground.data }, { on := 11, ground := Ground.data }, { on := 15, ground := Ground.data }], guard := none }) rfl (fun K hK => ?_) AllReadyH.nil
            go_simp
            go_at_call 22
            refine (step_any (c := 5) v SF hvk.1 rfl rfl (by omega) hFl hBl (hAo v).2 (hAo v).1 hS0b).mono ?_
            rintro e1 w2 ⟨r1, j1, fs2, T1, vF2, rfl, S2, hI1, ht1, hf1⟩
            obtain rfl := hdec r1 j1 fs2 T1 hI1 hf1
            have hb2 : w2.heap[pg]? = _ := S2.head
            have z0 : w2.cell? ⟨pg, 0, none⟩ = some (.slice (some ⟨go, 0, none⟩) N N) := cell_of_row w2 pg 0 _ 80 (0, 0) hb2
            have z2 : w2.cell? ⟨pg, 2, none⟩ = some (.slice (some ⟨gf, 0, none⟩) N N) := cell_of_row w2 pg 2 _ 80 (0, 0) hb2
            have z3 : w2.cell? ⟨pg, 3, none⟩ = some (.slice (some ⟨gt, 0, none⟩) N N) := cell_of_row w2 pg 3 _ 80 (0, 0) hb2
            (try go_wp2_with fail)
            refine hK.out _ _ ⟨z0, z2, z3⟩ (fun hHeld => ?_)
            clear hK K
            (try simp only [Act.put, List.setIfInBounds_toArray, List.set_cons_zero, List.set_cons_succ])
            refine wpAnyH_take (i := 17) (oi := { dst := some 90, op := Op.move (Operand.tmp 89), type := 4, pos := "roles.go:134", after := #[{ on := 16, ground := Ground.data }, { on := 16, ground := Ground.chain }], guard := none }) (v := ?_) rfl (by kernel_rfl) (by kernel_rfl) (by kernel_rfl) (fun _ _ _ h => h) (Or.inl ⟨by rfl, ?_⟩) (by assumption) ?_
            rotate_left
            · intro w hSw; (try dsimp only at hSw); go_simp; (try with_reducible rfl)
            (try simp only [Act.put, List.setIfInBounds_toArray, List.set_cons_zero, List.set_cons_succ])
            refine wpAnyH_take (i := 18) (oi := { dst := some 91, op := Op.move (Operand.tmp 0), type := 68, pos := "roles.go:134", after := #[{ on := 17, ground := Ground.guard }], guard := some (17, false) }) (v := undef) rfl (by kernel_rfl) (by kernel_rfl) (by kernel_rfl) (fun _ _ _ h => h) (Or.inr ⟨by rfl, rfl⟩) (by assumption) ?_
            (try simp only [Act.put, List.setIfInBounds_toArray, List.set_cons_zero, List.set_cons_succ])
            refine wpAnyH_take (i := 19) (oi := { dst := some 92, op := Op.move (Operand.tmp 0), type := 68, pos := "roles.go:134", after := #[{ on := 17, ground := Ground.guard }], guard := some (17, false) }) (v := undef) rfl (by kernel_rfl) (by kernel_rfl) (by kernel_rfl) (fun _ _ _ h => h) (Or.inr ⟨by rfl, rfl⟩) (by assumption) ?_
            (try simp only [Act.put, List.setIfInBounds_toArray, List.set_cons_zero, List.set_cons_succ])
            refine wpAnyH_take (i := 20) (oi := { dst := some 93, op := Op.nilCheck (Operand.tmp 92), type := 0, pos := "roles.go:134", after := #[{ on := 19, ground := Ground.data }, { on := 17, ground := Ground.guard }], guard := some (17, false) }) (v := undef) rfl (by kernel_rfl) (by kernel_rfl) (by kernel_rfl) (fun _ _ _ h => h) (Or.inr ⟨by rfl, rfl⟩) (by assumption) ?_
            (try simp only [Act.put, List.setIfInBounds_toArray, List.set_cons_zero, List.set_cons_succ])
            refine wpAnyH_take (i := 21) (oi := { dst := some 94, op := Op.fieldAddr 80 (Operand.tmp 93) 6, type := 0, pos := "roles.go:134", after := #[{ on := 20, ground := Ground.data }, { on := 17, ground := Ground.guard }], guard := some (17, false) }) (v := undef) rfl (by kernel_rfl) (by kernel_rfl) (by kernel_rfl) (fun _ _ _ h => h) (Or.inr ⟨by rfl, rfl⟩) (by assumption) ?_
            (try simp only [Act.put, List.setIfInBounds_toArray, List.set_cons_zero, List.set_cons_succ])
            refine wpAnyH_take (i := 22) (oi := { dst := some 95, op := Op.move (Operand.tmp 0), type := 68, pos := "roles.go:134", after := #[{ on := 17, ground := Ground.guard }], guard := some (17, false) }) (v := undef) rfl (by kernel_rfl) (by kernel_rfl) (by kernel_rfl) (fun _ _ _ h => h) (Or.inr ⟨by rfl, rfl⟩) (by assumption) ?_
            (try simp only [Act.put, List.setIfInBounds_toArray, List.set_cons_zero, List.set_cons_succ])
            refine wpAnyH_take (i := 23) (oi := { dst := some 96, op := Op.nilCheck (Operand.tmp 95), type := 0, pos := "roles.go:134", after := #[{ on := 22, ground := Ground.data }, { on := 17, ground := Ground.guard }], guard := some (17, false) }) (v := undef) rfl (by kernel_rfl) (by kernel_rfl) (by kernel_rfl) (fun _ _ _ h => h) (Or.inr ⟨by rfl, rfl⟩) (by assumption) ?_
            (try simp only [Act.put, List.setIfInBounds_toArray, List.set_cons_zero, List.set_cons_succ])
            refine wpAnyH_take (i := 24) (oi := { dst := some 97, op := Op.fieldAddr 80 (Operand.tmp 96) 1, type := 0, pos := "roles.go:134", after := #[{ on := 23, ground := Ground.data }, { on := 17, ground := Ground.guard }], guard := some (17, false) }) (v := undef) rfl (by kernel_rfl) (by kernel_rfl) (by kernel_rfl) (fun _ _ _ h => h) (Or.inr ⟨by rfl, rfl⟩) (by assumption) ?_
            (try simp only [Act.put, List.setIfInBounds_toArray, List.set_cons_zero, List.set_cons_succ])
            refine wpAnyH_take (i := 25) (oi := { dst := some 98, op := Op.load 66 (Operand.tmp 97), type := 66, pos := "roles.go:134", after := #[{ on := 24, ground := Ground.data }, { on := 17, ground := Ground.guard }], guard := some (17, false) }) (v := undef) rfl (by kernel_rfl) (by kernel_rfl) (by kernel_rfl) (fun _ _ _ h => h) (Or.inr ⟨by rfl, rfl⟩) (by assumption) ?_
            (try simp only [Act.put, List.setIfInBounds_toArray, List.set_cons_zero, List.set_cons_succ])
            refine wpAnyH_take (i := 26) (oi := { dst := some 99, op := Op.move (Operand.tmp 0), type := 68, pos := "roles.go:134", after := #[{ on := 17, ground := Ground.guard }], guard := some (17, false) }) (v := undef) rfl (by kernel_rfl) (by kernel_rfl) (by kernel_rfl) (fun _ _ _ h => h) (Or.inr ⟨by rfl, rfl⟩) (by assumption) ?_
            (try simp only [Act.put, List.setIfInBounds_toArray, List.set_cons_zero, List.set_cons_succ])
            refine wpAnyH_take (i := 27) (oi := { dst := some 100, op := Op.nilCheck (Operand.tmp 99), type := 0, pos := "roles.go:134", after := #[{ on := 26, ground := Ground.data }, { on := 17, ground := Ground.guard }], guard := some (17, false) }) (v := undef) rfl (by kernel_rfl) (by kernel_rfl) (by kernel_rfl) (fun _ _ _ h => h) (Or.inr ⟨by rfl, rfl⟩) (by assumption) ?_
            (try simp only [Act.put, List.setIfInBounds_toArray, List.set_cons_zero, List.set_cons_succ])
            refine wpAnyH_take (i := 28) (oi := { dst := some 101, op := Op.fieldAddr 80 (Operand.tmp 100) 3, type := 0, pos := "roles.go:134", after := #[{ on := 27, ground := Ground.data }, { on := 17, ground := Ground.guard }], guard := some (17, false) }) (v := undef) rfl (by kernel_rfl) (by kernel_rfl) (by kernel_rfl) (fun _ _ _ h => h) (Or.inr ⟨by rfl, rfl⟩) (by assumption) ?_
            (try simp only [Act.put, List.setIfInBounds_toArray, List.set_cons_zero, List.set_cons_succ])
            refine wpAnyH_take (i := 29) (oi := { dst := some 102, op := Op.load 28 (Operand.tmp 101), type := 28, pos := "roles.go:134", after := #[{ on := 28, ground := Ground.data }, { on := 17, ground := Ground.guard }], guard := some (17, false) }) (v := undef) rfl (by kernel_rfl) (by kernel_rfl) (by kernel_rfl) (fun _ _ _ h => h) (Or.inr ⟨by rfl, rfl⟩) (by assumption) ?_
            (try simp only [Act.put, List.setIfInBounds_toArray, List.set_cons_zero, List.set_cons_succ])
            refine wpAnyH_take (i := 30) (oi := { dst := some 103, op := Op.move (Operand.tmp 0), type := 68, pos := "roles.go:134", after := #[{ on := 17, ground := Ground.guard }], guard := some (17, false) }) (v := undef) rfl (by kernel_rfl) (by kernel_rfl) (by kernel_rfl) (fun _ _ _ h => h) (Or.inr ⟨by rfl, rfl⟩) (by assumption) ?_
            (try simp only [Act.put, List.setIfInBounds_toArray, List.set_cons_zero, List.set_cons_succ])
            refine wpAnyH_take (i := 31) (oi := { dst := some 104, op := Op.nilCheck (Operand.tmp 103), type := 0, pos := "roles.go:134", after := #[{ on := 30, ground := Ground.data }, { on := 17, ground := Ground.guard }], guard := some (17, false) }) (v := undef) rfl (by kernel_rfl) (by kernel_rfl) (by kernel_rfl) (fun _ _ _ h => h) (Or.inr ⟨by rfl, rfl⟩) (by assumption) ?_
            (try simp only [Act.put, List.setIfInBounds_toArray, List.set_cons_zero, List.set_cons_succ])
            refine wpAnyH_take (i := 32) (oi := { dst := some 105, op := Op.fieldAddr 80 (Operand.tmp 104) 2, type := 0, pos := "roles.go:134", after := #[{ on := 31, ground := Ground.data }, { on := 17, ground := Ground.guard }], guard := some (17, false) }) (v := undef) rfl (by kernel_rfl) (by kernel_rfl) (by kernel_rfl) (fun _ _ _ h => h) (Or.inr ⟨by rfl, rfl⟩) (by assumption) ?_
            (try simp only [Act.put, List.setIfInBounds_toArray, List.set_cons_zero, List.set_cons_succ])
            refine wpAnyH_take (i := 33) (oi := { dst := some 106, op := Op.load 28 (Operand.tmp 105), type := 28, pos := "roles.go:134", after := #[{ on := 32, ground := Ground.data }, { on := 17, ground := Ground.guard }], guard := some (17, false) }) (v := undef) rfl (by kernel_rfl) (by kernel_rfl) (by kernel_rfl) (fun _ _ _ h => h) (Or.inr ⟨by rfl, rfl⟩) (by assumption) ?_
            (try simp only [Act.put, List.setIfInBounds_toArray, List.set_cons_zero, List.set_cons_succ])
            refine wpAnyH_take (i := 34) (oi := { dst := some 107, op := Op.call { callee := Callee.value (Operand.func 22), args := #[Operand.tmp 91, Operand.tmp 94, Operand.tmp 98, Operand.tmp 102, Operand.tmp 106], argTypes := #[68, 82, 66, 28, 28] }, type := 4, pos := "roles.go:135", after := #[{ on := 18, ground := Ground.data }, { on := 21, ground := Ground.data }, { on := 25, ground := Ground.data }, { on := 29, ground := Ground.data }, { on := 33, ground := Ground.data }, { on := 17, ground := Ground.chain }, { on := 17, ground := Ground.guard }], guard := some (17, false) }) (v := undef) rfl (by kernel_rfl) (by kernel_rfl) (by kernel_rfl) (fun _ _ _ h => h) (Or.inr ⟨by rfl, rfl⟩) (by assumption) ?_
            (try simp only [Act.put, List.setIfInBounds_toArray, List.set_cons_zero, List.set_cons_succ])
            refine wpAnyH_take (i := 35) (oi := { dst := some 108, op := Op.pick (Operand.tmp 90) (Operand.const (Value.bool true)) (Operand.tmp 107), type := 4, pos := "roles.go:134", after := #[{ on := 17, ground := Ground.data }, { on := 34, ground := Ground.data }], guard := none }) (v := ?_) rfl (by kernel_rfl) (by kernel_rfl) (by kernel_rfl) (fun _ _ _ h => h) (Or.inl ⟨by rfl, ?_⟩) (by assumption) ?_
            rotate_left
            · intro w hSw; (try dsimp only at hSw); go_simp; (try with_reducible rfl)
            (try simp only [Act.put, List.setIfInBounds_toArray, List.set_cons_zero, List.set_cons_succ])
            refine wpAnyH_done (by kernel_rfl) ?_ _
            refine NoPanic.normal ?_
            go_wp2
            go_meet
            case rel =>
                obtain ⟨x, hx, hxs⟩ := hex
                refine ⟨true, fs2, ts', S0 ++ T1, TS', vF2, .slice aT TS'.length cT, rfl, ?_, by rw [hI1.len]; exact hFl, hBl, fun x => ?_, B.le, fun _ => ((F.way v hvk.2).tail hx).trans (hrevW x (B.way x hxs)), (fun h => by cases h)⟩
                · have := S2.l36
                  rw [show Res.row 3 1 (.slice aT TS'.length cT) (U0.length + 1) (nats (U0 ++ [u])) = Res.row 3 1 (.slice aT TS'.length cT) TS'.length (nats TS') from HET.out.symm] at this
                  exact this
                · rcases hI1.keep x with e | e
                  · rw [e]; exact F.le x
                  · rw [e]; exact Nat.le_refl _
          · have hdec : ∀ (r1 : Bool), (r1 = true → ∃ x ∈ Ao.getD v [], ts'.getD x 0 = s1) → r1 = false := fun r1 h => by
              cases r1 with
              | true => exact absurd (h rfl) hex
              | false => rfl
            refine wp_region_noPanic ?_
            go_region_held3 (fun w' => w'.cell? ⟨pg, 0, none⟩ = some (.slice (some ⟨go, 0, none⟩) N N) ∧ w'.cell? ⟨pg, 1, none⟩ = some (.slice (some ⟨gi, 0, none⟩) N N) ∧ w'.cell? ⟨pg, 2, none⟩ = some (.slice (some ⟨gf, 0, none⟩) N N) ∧ w'.cell? ⟨pg, 3, none⟩ = some (.slice (some ⟨gt, 0, none⟩) N N)) (first | exact ⟨p0, p1, p2, p3⟩ | exact ⟨y0, y1, y2, y3⟩ | exact ⟨z0, z1, z2, z3⟩ | assumption) ((first
              | (go_at_call 22; refine (step_any (c := 6) u SB huk.1 rfl rfl (by omega) hBl hfs2 (hAi u).2 (hAi u).1 hU0b).mono ?_; rintro e2 w3 ⟨r2, j2, ts2, T2, vT2, rfl, S3, hI2, ht2, hf2⟩; have hb3' : w3.heap[pg]? = _ := S3.head; have y0 : w3.cell? ⟨pg, 0, none⟩ = some (.slice (some ⟨go, 0, none⟩) N N) := cell_of_row w3 pg 0 _ 80 (0, 0) hb3'; have y1 : w3.cell? ⟨pg, 1, none⟩ = some (.slice (some ⟨gi, 0, none⟩) N N) := cell_of_row w3 pg 1 _ 80 (0, 0) hb3'; have y2 : w3.cell? ⟨pg, 2, none⟩ = some (.slice (some ⟨gf, 0, none⟩) N N) := cell_of_row w3 pg 2 _ 80 (0, 0) hb3'; have y3 : w3.cell? ⟨pg, 3, none⟩ = some (.slice (some ⟨gt, 0, none⟩) N N) := cell_of_row w3 pg 3 _ 80 (0, 0) hb3')
              | (go_at_call 22; refine (step_any (c := 5) v SF hvk.1 rfl rfl (by omega) hFl hBl (hAo v).2 (hAo v).1 hS0b).mono ?_; rintro e1 w2 ⟨r1, j1, fs2, T1, vF2, rfl, S2, hI1, ht1, hf1⟩; obtain rfl := hdec r1 ht1; have hb2 : w2.heap[pg]? = _ := S2.head; have z0 : w2.cell? ⟨pg, 0, none⟩ = some (.slice (some ⟨go, 0, none⟩) N N) := cell_of_row w2 pg 0 _ 80 (0, 0) hb2; have z1 : w2.cell? ⟨pg, 1, none⟩ = some (.slice (some ⟨gi, 0, none⟩) N N) := cell_of_row w2 pg 1 _ 80 (0, 0) hb2; have z2 : w2.cell? ⟨pg, 2, none⟩ = some (.slice (some ⟨gf, 0, none⟩) N N) := cell_of_row w2 pg 2 _ 80 (0, 0) hb2; have z3 : w2.cell? ⟨pg, 3, none⟩ = some (.slice (some ⟨gt, 0, none⟩) N N) := cell_of_row w2 pg 3 _ 80 (0, 0) hb2; have SB := S2.p5.p3.p7.p5.p6.p7.p7; have hfs2 : fs2.length = N := hI1.len.trans hFl)))
            all_goals
              refine NoPanic.normal ?_
              go_wp2
              go_meet
              case rel =>
                have F2 := F.step (hAo v).2 hI1 (hf1 (by trivial))
                have D2 := Side.apart D hI1 (hf1 (by trivial))
                refine ⟨r2, fs2, ts2, S0 ++ T1, U0 ++ T2, vF2, vT2, rfl, S3.p5.p7.p5.p6.p6.p7.p7, hfs2, by rw [hI2.len]; exact hBl, F2.le, fun x => ?_, fun h => ?_, fun h => ?_⟩
                · rcases hI2.keep x with e | e
                  · rw [e]; exact B.le x
                  · rw [e]; exact Nat.le_refl _
                · obtain ⟨y, hy, hys⟩ := ht2 h
                  exact (F2.way y hys).trans (.head ((hrev u y).1 hy) (hrevW u (B.way u huk.2)))
                · have B2 := B.step (hAi u).2 hI2 (hf2 h)
                  have D3 := Side.apart (fun x h1 h2 => D2 x h2 h1) hI2 (hf2 h)
                  refine ⟨F2, B2, fun x h1 h2 => D3 x h2 h1, ?_⟩
                  have k1 := hI1.cnt
                  have k2 := hI2.cnt
                  have k3 := HK.out
                  have k4 := HFS.out
                  have k5 := HTS.out
                  simp only [List.length_append]
                  omega
        case rest =>
          obtain ⟨r, fs2, ts2, FS2, TS2, vF2, vT2, rfl, S, l1, l2, e1, e2, hrt, hrf⟩ := hcut
          clear SF p0 p1 p2 p3 p5 p6 F B D HET
          cases r with
          | true =>
            have HRT := Hid.mk' (hrt rfl)
            clear hrt hrf
            go_wp2
            go_ret
            exact ⟨true, s1, fs2, ts2, vF2, vT2, FS2, TS2, rfl, S, Nat.le_refl _, l1, l2, e1, e2, ⟨fun _ => HRT.out, fun _ => rfl⟩⟩
          | false =>
            obtain ⟨F, B, D, hlt⟩ := hrf rfl
            have HLT := Hid.mk' hlt
            clear hlt hrt hrf
            go_wp2
            go_roundg (2 * (unseen s1 fs2 + unseen s1 ts2) + FS2.length + TS2.length)
            case measure => exact HLT.out
            case rel => exact ⟨fs2, ts2, FS2, TS2, vF2, vT2, rfl, F, B, D, S⟩
end
end Go.Proofs.Ybulkcdco
