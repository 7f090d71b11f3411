import Derived.Test.YbulkcdcoStep
namespace Go.Proofs.Ybulkcdco
open Go.RowKit

theorem Sep.p8 {w0 w : World} {a b c d e f g h : Res} {rs : List Res} (S : Sep w0 w (a :: b :: c :: d :: e :: f :: g :: h :: rs)) : Sep w0 w (h :: a :: b :: c :: d :: e :: f :: g :: rs) :=
  S.perm (List.perm_middle (l₁ := [a, b, c, d, e, f, g]) (l₂ := rs))
theorem Sep.p9 {w0 w : World} {a b c d e f g h i : Res} {rs : List Res} (S : Sep w0 w (a :: b :: c :: d :: e :: f :: g :: h :: i :: rs)) : Sep w0 w (i :: a :: b :: c :: d :: e :: f :: g :: h :: rs) :=
  S.perm (List.perm_middle (l₁ := [a, b, c, d, e, f, g, h]) (l₂ := rs))
theorem Sep.p10 {w0 w : World} {a b c d e f g h i j : Res} {rs : List Res} (S : Sep w0 w (a :: b :: c :: d :: e :: f :: g :: h :: i :: j :: rs)) : Sep w0 w (j :: a :: b :: c :: d :: e :: f :: g :: h :: i :: rs) :=
  S.perm (List.perm_middle (l₁ := [a, b, c, d, e, f, g, h, i]) (l₂ := rs))
theorem Sep.p11 {w0 w : World} {a b c d e f g h i j k : Res} {rs : List Res} (S : Sep w0 w (a :: b :: c :: d :: e :: f :: g :: h :: i :: j :: k :: rs)) : Sep w0 w (k :: a :: b :: c :: d :: e :: f :: g :: h :: i :: j :: rs) :=
  S.perm (List.perm_middle (l₁ := [a, b, c, d, e, f, g, h, i, j]) (l₂ := rs))
theorem Sep.p12 {w0 w : World} {a b c d e f g h i j k l : Res} {rs : List Res} (S : Sep w0 w (a :: b :: c :: d :: e :: f :: g :: h :: i :: j :: k :: l :: rs)) : Sep w0 w (l :: a :: b :: c :: d :: e :: f :: g :: h :: i :: j :: k :: rs) :=
  S.perm (List.perm_middle (l₁ := [a, b, c, d, e, f, g, h, i, j, k]) (l₂ := rs))
theorem Sep.p13 {w0 w : World} {a b c d e f g h i j k l m : Res} {rs : List Res} (S : Sep w0 w (a :: b :: c :: d :: e :: f :: g :: h :: i :: j :: k :: l :: m :: rs)) : Sep w0 w (m :: a :: b :: c :: d :: e :: f :: g :: h :: i :: j :: k :: l :: rs) :=
  S.perm (List.perm_middle (l₁ := [a, b, c, d, e, f, g, h, i, j, k, l]) (l₂ := rs))
theorem Sep.q7 {w0 w : World} {a b c d e f g : Res} {rs : List Res} (S : Sep w0 w (a :: b :: c :: d :: e :: f :: g :: rs)) : Sep w0 w (b :: c :: d :: e :: f :: g :: a :: rs) :=
  S.perm (List.perm_middle (l₁ := [b, c, d, e, f, g]) (l₂ := rs)).symm
theorem Sep.q8 {w0 w : World} {a b c d e f g h : Res} {rs : List Res} (S : Sep w0 w (a :: b :: c :: d :: e :: f :: g :: h :: rs)) : Sep w0 w (b :: c :: d :: e :: f :: g :: h :: a :: rs) :=
  S.perm (List.perm_middle (l₁ := [b, c, d, e, f, g, h]) (l₂ := rs)).symm
theorem Sep.q9 {w0 w : World} {a b c d e f g h i : Res} {rs : List Res} (S : Sep w0 w (a :: b :: c :: d :: e :: f :: g :: h :: i :: rs)) : Sep w0 w (b :: c :: d :: e :: f :: g :: h :: i :: a :: rs) :=
  S.perm (List.perm_middle (l₁ := [b, c, d, e, f, g, h, i]) (l₂ := rs)).symm
theorem Sep.q10 {w0 w : World} {a b c d e f g h i j : Res} {rs : List Res} (S : Sep w0 w (a :: b :: c :: d :: e :: f :: g :: h :: i :: j :: rs)) : Sep w0 w (b :: c :: d :: e :: f :: g :: h :: i :: j :: a :: rs) :=
  S.perm (List.perm_middle (l₁ := [b, c, d, e, f, g, h, i, j]) (l₂ := rs)).symm
theorem Sep.q11 {w0 w : World} {a b c d e f g h i j k : Res} {rs : List Res} (S : Sep w0 w (a :: b :: c :: d :: e :: f :: g :: h :: i :: j :: k :: rs)) : Sep w0 w (b :: c :: d :: e :: f :: g :: h :: i :: j :: k :: a :: rs) :=
  S.perm (List.perm_middle (l₁ := [b, c, d, e, f, g, h, i, j, k]) (l₂ := rs)).symm
theorem Sep.q12 {w0 w : World} {a b c d e f g h i j k l : Res} {rs : List Res} (S : Sep w0 w (a :: b :: c :: d :: e :: f :: g :: h :: i :: j :: k :: l :: rs)) : Sep w0 w (b :: c :: d :: e :: f :: g :: h :: i :: j :: k :: l :: a :: rs) :=
  S.perm (List.perm_middle (l₁ := [b, c, d, e, f, g, h, i, j, k, l]) (l₂ := rs)).symm
theorem Sep.q13 {w0 w : World} {a b c d e f g h i j k l m : Res} {rs : List Res} (S : Sep w0 w (a :: b :: c :: d :: e :: f :: g :: h :: i :: j :: k :: l :: m :: rs)) : Sep w0 w (b :: c :: d :: e :: f :: g :: h :: i :: j :: k :: l :: m :: a :: rs) :=
  S.perm (List.perm_middle (l₁ := [b, c, d, e, f, g, h, i, j, k, l, m]) (l₂ := rs)).symm

theorem Sep.pp7 {w0 w : World} {a b c d e f g : Res} {rs : List Res} (S : Sep w0 w (a :: b :: c :: d :: e :: f :: g :: rs)) : Sep w0 w (g :: a :: b :: c :: d :: e :: f :: rs) :=
  S.perm (List.perm_middle (l₁ := [a, b, c, d, e, f]) (l₂ := rs))
def bools (l : List Bool) : List Value := l.map Value.bool
theorem bools_set (l : List Bool) (i : Nat) (b : Bool) : bools (l.set i b) = (bools l).set i (.bool b) := by unfold bools; rw [List.map_set]
/-- The path's cells: a node and the next of its edges. -/
def steps (ne : Nat → Nat) (pn : List Nat) : List Value := pn.flatMap fun (v : Nat) => [Value.int .i64 (v : Int), .int .i64 ((ne v : Nat) : Int)]

theorem steps_upd (ne : Nat → Nat) (pn : List Nat) (v z : Nat) (h : v ∉ pn) : steps (upd ne v z) pn = steps ne pn := by
  unfold steps
  induction pn with
  | nil => rfl
  | cons a l ih =>
    simp only [List.mem_cons, not_or] at h
    simp only [List.flatMap_cons, ih h.2, upd_ne ne z (fun e : a = v => h.1 e.symm)]
theorem steps_push (ne : Nat → Nat) (pn : List Nat) (v : Nat) (h : v ∉ pn) : steps ne pn ++ [.int .i64 (v : Int), .int .i64 0] = steps (upd ne v 0) (pn ++ [v]) := by
  have e := steps_upd ne pn v 0 h
  unfold steps at e ⊢
  rw [List.flatMap_append, e]
  simp [upd_same]
theorem Src.pair_new (w : World) (a b : Int) (t : TypeId) : Src (w.alloc (.cells #[.int .i64 a, .int .i64 b] t)) 2 (.slice (some ⟨w.heap.size, 0, none⟩) 1 1) 1 [.int .i64 a, .int .i64 b] := by
  refine ⟨rfl, fun x hx => ?_, some ⟨w.heap.size, 0, none⟩, 1, rfl, (fun h => by cases h), (fun a' ha => ?_)⟩
  · simp only [List.mem_cons, List.not_mem_nil, or_false] at hx
    rcases hx with rfl | rfl <;> rfl
  · cases ha
    intro j u hu
    have hadd : (⟨w.heap.size, 0, none⟩ : Addr).add j = ⟨w.heap.size, j, none⟩ := by unfold Addr.add; split <;> simp_all
    rw [hadd, cell_of_row _ _ j _ t (0, 0) (heap_alloc_new w _)]
    simpa using hu
theorem Yba.info76 : (Yba.prog.info? 76).map (fun i => (i.zero, i.size, i.bytes)) = some (some (.agg #[.int .i64 0, .int .i64 0]), 2, 16) := by kernel_rfl

/-- What the visit has in memory. -/
def TarL (bv bi bl bs bo bp gi gl go N vis : Nat) (ix lw : List Nat) (os : List Bool) (vst vpt : Value) (st pn : List Nat) (ne : Nat → Nat) (rs : List Res) : List Res :=
  Res.blk bv #[.int .i64 (vis : Int)] 3 :: Res.blk bi #[.slice (some ⟨gi, 0, none⟩) N N] 28 :: Res.blk bl #[.slice (some ⟨gl, 0, none⟩) N N] 28 :: Res.blk bs #[vst] 28 :: Res.blk bo #[.slice (some ⟨go, 0, none⟩) N N] 73 :: Res.blk bp #[vpt] 74 ::
    Res.row 3 1 (.slice (some ⟨gi, 0, none⟩) N N) N (nats ix) :: Res.row 3 1 (.slice (some ⟨gl, 0, none⟩) N N) N (nats lw) :: Res.row 4 1 (.slice (some ⟨go, 0, none⟩) N N) N (bools os) :: Res.row 3 1 vst st.length (nats st) :: Res.row 76 2 vpt pn.length (steps ne pn) :: rs

section
variable {w0 w : World} {bv bi bl bs bo bp gi gl go N vis : Nat} {ix lw : List Nat} {os : List Bool} {vst vpt : Value} {st pn : List Nat} {ne : Nat → Nat} {rs : List Res}

set_option maxHeartbeats 3200000 in
theorem enter_any (S : Sep w0 w (TarL bv bi bl bs bo bp gi gl go N vis ix lw os vst vpt st pn ne rs)) (v : Nat) (hv : v < N) (hix : ix.length = N) (hlw : lw.length = N) (hos : os.length = N) (hvis : vis ≤ 100000) (hst : st.length ≤ 100000) (hpn : pn.length ≤ 100000) (hvp : v ∉ pn) :
    Calls Yba.prog 21 #[.int .i64 v, .pointer (some ⟨bv, 0, none⟩), .pointer (some ⟨bi, 0, none⟩), .pointer (some ⟨bl, 0, none⟩), .pointer (some ⟨bs, 0, none⟩), .pointer (some ⟨bo, 0, none⟩), .pointer (some ⟨bp, 0, none⟩)] w fun r w' => r = .returned (.tuple #[]) ∧ ∃ vst' vpt',
      Sep w0 w' (TarL bv bi bl bs bo bp gi gl go N (vis + 1) (ix.set v (vis + 1)) (lw.set v (vis + 1)) (os.set v true) vst' vpt' (st ++ [v]) (pn ++ [v]) (upd ne v 0) rs) := by
  obtain ⟨i3, hi3, hz3, hs3, hb3⟩ := info_parts Yba.infoC3
  obtain ⟨i76, hi76, hz76, hs76, hb76⟩ := info_parts Yba.info76
  unfold TarL at S
  have x0 : (v : Int) < (N : Int) := by omega
  have x1 : (0 : Int) ≤ (v : Int) := by omega
  have hb0 : w.heap[bv]? = _ := S.head
  have c0 : w.cell? ⟨bv, 0, none⟩ = some (.int .i64 (vis : Int)) := cell_of_row w bv 0 _ 3 (0, 0) hb0
  have f0 : w.frozen? ⟨bv, 0, none⟩ = false := frozen_of_row w bv 0 _ 3 hb0
  have hvv : (vis : Int) + 1 = ((vis + 1 : Nat) : Int) := by omega
  have S1 := S.blkSet 0 (.int .i64 ((vis + 1 : Nat) : Int))
  generalize hv1 : vis + 1 = v1 at *
  have HV1 := Hid.mk' hv1
  clear hv1 hb0 S
  go_enter Yba.func21, Yba.ntmps21
  go_upto_region 1 with fail
  generalize (w.setCell ⟨bv, 0, none⟩ (.int .i64 (v1 : Int))) = w1 at *
  clear c0 f0
  have S1 : Sep w0 w1 (TarL bv bi bl bs bo bp gi gl go N v1 ix lw os vst vpt st pn ne rs) := S1
  go_cut [] from 10 to 17 (fun wc => Sep w0 wc (TarL bv bi bl bs bo bp gi gl go N v1 (ix.set v v1) (lw.set v v1) os vst vpt st pn ne rs))
  case first =>
    unfold TarL at S1
    have hbv : w1.heap[bv]? = _ := S1.head
    have hbi : w1.heap[bi]? = _ := S1.tail.head
    have hbl : w1.heap[bl]? = _ := S1.tail.tail.head
    have c0 : w1.cell? ⟨bv, 0, none⟩ = some (.int .i64 (v1 : Int)) := cell_of_row w1 bv 0 _ 3 (0, 0) hbv
    have c1 : w1.cell? ⟨bi, 0, none⟩ = some (.slice (some ⟨gi, 0, none⟩) N N) := cell_of_row w1 bi 0 _ 28 (0, 0) hbi
    have c2 : w1.cell? ⟨bl, 0, none⟩ = some (.slice (some ⟨gl, 0, none⟩) N N) := cell_of_row w1 bl 0 _ 28 (0, 0) hbl
    have hri : w1.ownsRow 0 3 1 (.slice (some ⟨gi, 0, none⟩) N N) N (nats ix) := S1.pp7.head
    have hrl : w1.ownsRow 0 3 1 (.slice (some ⟨gl, 0, none⟩) N N) N (nats lw) := S1.p8.head
    have d1 : w1.cell? ⟨gi, v, none⟩ = some (.int .i64 ((ix.getD v 0 : Nat) : Int)) := by rw [hri.cellAt v (by omega)]; exact nats_get ix v (by omega)
    have f1 : w1.frozen? ⟨gi, v, none⟩ = false := hri.frozenAt v
    have S2 := (S1.pp7.store v (.int .i64 (v1 : Int))).q7.p8
    have hrl' : World.ownsRow _ 0 3 1 (.slice (some ⟨gl, 0, none⟩) N N) N (nats lw) := S2.head
    have d2 : w1.cell? ⟨gl, v, none⟩ = some (.int .i64 ((lw.getD v 0 : Nat) : Int)) := by rw [hrl.cellAt v (by omega)]; exact nats_get lw v (by omega)
    have f2 : w1.frozen? ⟨gl, v, none⟩ = false := hrl.frozenAt v
    have d2' : (w1.setCell ⟨gi, v, none⟩ (.int .i64 (v1 : Int))).cell? ⟨gl, v, none⟩ = some (.int .i64 ((lw.getD v 0 : Nat) : Int)) := by rw [hrl'.cellAt v (by omega)]; exact nats_get lw v (by omega)
    have f2' : (w1.setCell ⟨gi, v, none⟩ (.int .i64 (v1 : Int))).frozen? ⟨gl, v, none⟩ = false := hrl'.frozenAt v
    have hbv' : (w1.setCell ⟨gi, v, none⟩ (.int .i64 (v1 : Int))).heap[bv]? = _ := S2.tail.head
    have hbl' : (w1.setCell ⟨gi, v, none⟩ (.int .i64 (v1 : Int))).heap[bl]? = _ := S2.tail.tail.tail.head
    have c0' : (w1.setCell ⟨gi, v, none⟩ (.int .i64 (v1 : Int))).cell? ⟨bv, 0, none⟩ = some (.int .i64 (v1 : Int)) := cell_of_row _ bv 0 _ 3 (0, 0) hbv'
    have c2' : (w1.setCell ⟨gi, v, none⟩ (.int .i64 (v1 : Int))).cell? ⟨bl, 0, none⟩ = some (.slice (some ⟨gl, 0, none⟩) N N) := cell_of_row _ bl 0 _ 28 (0, 0) hbl'
    have S3 := (S2.store v (.int .i64 (v1 : Int))).q8
    rw [← nats_set, ← nats_set] at S3
    have S4 := S3.quiet ((Keeps.refl (fun _ => False) _).drew)
    generalize ix.getD v 0 = iv at *
    generalize lw.getD v 0 = lv at *
    clear hbv hbi hbl hri hrl hrl' S1 S2 S3 hbv' hbl'
    go_region
    all_goals
      go_wp2
      go_meet
      case rel => exact S4
  case rest =>
    clear S1
    have S1 := hcut
    clear hcut
    unfold TarL at S1
    generalize hix1 : ix.set v v1 = ix1 at *
    generalize hlw1 : lw.set v v1 = lw1 at *
    have HIX := Hid.mk' hix1
    have HLW := Hid.mk' hlw1
    clear hix1 hlw1
    have hbs : wc.heap[bs]? = _ := S1.tail.tail.tail.head
    have c0 : wc.cell? ⟨bs, 0, none⟩ = some vst := cell_of_row wc bs 0 _ 28 (0, 0) hbs
    have S2 := S1.p10.quiet ((Keeps.refl (fun _ => False) wc).alloc (.cells #[.int .i64 (v : Int)] 3))
    have hO : World.ownsRow _ 0 3 1 vst st.length (nats st) := S2.head
    clear hbs
    go_upto_region 3 with (at_builtin; refine wpList_app _ rfl (.tmp 18) (.tmp 20) 28 rfl 3 i3 (.int .i64 0) 1 8 Yba.underlying28 hi3 hz3 hs3 hb3 rfl (by omega) vst st.length (nats st) rfl hO 1 [.int .i64 (v : Int)] (Src.one_new wc _ _ rfl) (by unfold maxLen; omega) (by omega) ?_; intro x7 w7 hA7 hn7; have S7 := S2.app hA7; have hb7 : w7.heap[bs]? = _ := S7.p5.head; have pc7 : w7.cell? ⟨bs, 0, none⟩ = some vst := cell_of_row w7 bs 0 _ 28 (0, 0) hb7; have pf7 : w7.frozen? ⟨bs, 0, none⟩ = false := frozen_of_row w7 bs 0 _ 28 hb7; obtain ⟨a7, c7, e7⟩ := own_sliceB hA7.own; subst e7)
    have S8 := ((S7.p5.blkSet 0 (.slice a7 (st.length + 1) c7)).q5.q10)
    have e8 : nats st ++ [.int .i64 (v : Int)] = nats (st ++ [v]) := by rw [nats_append]; rfl
    rw [e8] at S8
    generalize (w7.setCell ⟨bs, 0, none⟩ (.slice a7 (st.length + 1) c7)) = w8 at *
    clear S1 S2 S7 hA7 hn7 hO c0 pc7 pf7 hb7 e8
    have hbo : w8.heap[bo]? = _ := S8.p5.head
    have c1 : w8.cell? ⟨bo, 0, none⟩ = some (.slice (some ⟨go, 0, none⟩) N N) := cell_of_row w8 bo 0 _ 73 (0, 0) hbo
    have hro : w8.ownsRow 0 4 1 (.slice (some ⟨go, 0, none⟩) N N) N (bools os) := S8.p9.head
    have d1 : w8.cell? ⟨go, v, none⟩ = some (.bool (os.getD v false)) := by rw [hro.cellAt v (by omega)]; simp [bools, show v < os.length by omega]
    have f1 : w8.frozen? ⟨go, v, none⟩ = false := hro.frozenAt v
    have S9 := (S8.p9.store v (.bool true)).q9
    rw [← bools_set] at S9
    generalize os.getD v false = ob at *
    clear hbo hro S8
    go_upto_region 4 with fail
    generalize (w8.setCell ⟨go, v, none⟩ (.bool true)) = w9 at *
    generalize hos1 : os.set v true = os1 at *
    have HOS := Hid.mk' hos1
    clear hos1
    clear c1 d1 f1
    have hbp : w9.heap[bp]? = _ := S9.p6.head
    have c2 : w9.cell? ⟨bp, 0, none⟩ = some vpt := cell_of_row w9 bp 0 _ 74 (0, 0) hbp
    have S10 := S9.p11.quiet ((Keeps.refl (fun _ => False) w9).alloc (.cells #[.int .i64 (v : Int), .int .i64 0] 76))
    have hO : World.ownsRow _ 0 76 2 vpt pn.length (steps ne pn) := S10.head
    clear hbp
    go_wp2_with (at_builtin; refine wpList_app _ rfl (.tmp 25) (.tmp 28) 74 rfl 76 i76 (.agg #[.int .i64 0, .int .i64 0]) 2 16 Yba.underlying74 hi76 hz76 hs76 hb76 rfl (by omega) vpt pn.length (steps ne pn) rfl hO 1 [.int .i64 (v : Int), .int .i64 0] (Src.pair_new w9 _ _ _) (by unfold maxLen; omega) (by omega) ?_; intro x7 w10 hA7 hn7; have S11 := S10.app hA7; have hb7 : w10.heap[bp]? = _ := S11.pp7.head; have pc7 : w10.cell? ⟨bp, 0, none⟩ = some vpt := cell_of_row w10 bp 0 _ 74 (0, 0) hb7; have pf7 : w10.frozen? ⟨bp, 0, none⟩ = false := frozen_of_row w10 bp 0 _ 74 hb7; obtain ⟨ap, cp, ep⟩ := own_sliceB hA7.own; subst ep)
    have S12 := (S11.pp7.blkSet 0 (.slice ap (pn.length + 1) cp)).q7.q11
    rw [steps_push ne pn v hvp] at S12
    go_end0
    refine ⟨rfl, .slice a7 (st.length + 1) c7, .slice ap (pn.length + 1) cp, ?_⟩
    unfold TarL
    rw [HIX.out, HLW.out, HOS.out, show (st ++ [v]).length = st.length + 1 by simp, show (pn ++ [v]).length = pn.length + 1 by simp]
    exact S12
end
end Go.Proofs.Ybulkcdco
