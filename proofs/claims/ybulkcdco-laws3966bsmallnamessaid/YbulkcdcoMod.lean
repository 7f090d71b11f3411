import Derived.Test.YbulkcdcoBid
import Derived.Test.YbulkcdcoGr
import Derived.Test.YbulkcdcoGa
import Derived.Test.YbulkcdcoBfs
import Derived.Test.YbulkcdcoIds
import Derived.Deep.LoopGhost
namespace Go.Proofs.Ybulkcdco
open Go.RowKit

def bools' (l : List Bool) : List Value := l.map Value.bool
theorem Yba.info4 : (Yba.prog.info? 4).map (fun i => (i.zero, i.size, i.bytes)) = some (some (.bool false), 1, 1) := by kernel_rfl

theorem bools'_set (l : List Bool) (i : Nat) (b : Bool) : bools' (l.set i b) = (bools' l).set i (.bool b) := by unfold bools'; rw [List.map_set]
theorem bools'_get (l : List Bool) (i : Nat) (h : i < l.length) : (bools' l)[i]? = some (.bool (l.getD i false)) := by simp [bools', h]
theorem Sep.browAt {w0 w : World} {rs : List Res} (S : Sep w0 w rs) (N : Nat) (hN : N ≤ 1000000) {g : Nat} (hg : w.heap.size = g) : Sep w0 (w.alloc (.cells (madeCells #[Value.bool false] N) 4)) (Res.row 4 1 (.slice (some ⟨g, 0, none⟩) N N) N (bools' (List.replicate N false)) :: rs) := by
  subst hg
  have hz := toList_madeCells_one (Value.bool false) N
  have hsz : (madeCells #[Value.bool false] N).size = N := by rw [← Array.length_toList, hz]; simp
  refine S.add (r := Res.row 4 1 (.slice (some ⟨w.heap.size, 0, none⟩) N N) N (bools' (List.replicate N false))) ⟨by simp [bools'], .inr ⟨w.heap.size, N, _, rfl, Nat.zero_le _, heap_alloc_new w _, Nat.le_refl _, by unfold maxLen; omega, by omega, by rw [hz]; simp [bools']⟩⟩ ((Keeps.refl _ w).alloc _) (fun b hb => ?_)
  simp [Res.row, Value.ownBlock] at hb; omega
theorem Sep.oneAt {w0 w : World} {rs : List Res} (S : Sep w0 w rs) (z : Nat) {g : Nat} (hg : w.heap.size = g) : Sep w0 (w.alloc (.cells #[.int .i64 (z : Int)] 3)) (Res.row 3 1 (.slice (some ⟨g, 0, none⟩) 1 1) 1 (nats [z]) :: rs) := by
  subst hg
  refine S.add (r := Res.row 3 1 (.slice (some ⟨w.heap.size, 0, none⟩) 1 1) 1 (nats [z])) ⟨rfl, .inr ⟨w.heap.size, 1, #[.int .i64 (z : Int)], rfl, Nat.zero_le _, heap_alloc_new w _, Nat.le_refl _, by unfold maxLen; omega, rfl, rfl⟩⟩ ((Keeps.refl _ w).alloc _) (fun b hb => ?_)
  simp [Res.row, Value.ownBlock] at hb; omega
/-- The lists hold the rows kept. -/
structure MI (e : List (Nat × Nat)) (M : Nat) (A : List (List Nat)) (k : Nat) : Prop where
  edge : ∀ x y, y ∈ A.getD x [] ↔ (x, y) ∈ mK e k
  deg : ∀ x, (A.getD x []).length ≤ k
theorem MI.way {e : List (Nat × Nat)} {M k x y : Nat} {A : List (List Nat)} (h : MI e M A k) : Way (Nb A) x y ↔ Way (In (mK e k)) x y :=
  ⟨fun hw => hw.mono (fun a b h1 => (h.edge a b).1 h1), fun hw => hw.mono (fun a b h1 => (h.edge a b).2 h1)⟩
theorem MI.start (e : List (Nat × Nat)) (M : Nat) : MI e M (List.replicate M []) 0 := by
  have hz : ∀ x, (List.replicate M ([] : List Nat)).getD x [] = [] := fun x => by simp only [List.getD_eq_getElem?_getD, List.getElem?_replicate]; split <;> rfl
  exact ⟨fun x y => by rw [hz]; simp [mK], fun x => by rw [hz]; simp⟩
theorem MI.same {e : List (Nat × Nat)} {M k m r : Nat} {A : List (List Nat)} (h : MI e M A k) (he : e.getD k (0, 0) = (m, r)) (hw : Way (In (mK e k)) r m) : MI e M A (k + 1) :=
  ⟨fun x y => by rw [mK_pos he hw]; exact h.edge x y, fun x => by have := h.deg x; omega⟩
theorem MI.add {e : List (Nat × Nat)} {M k m r : Nat} {A : List (List Nat)} (h : MI e M A k) (hA : A.length = M) (hm : m < M) (he : e.getD k (0, 0) = (m, r)) (hw : ¬ Way (In (mK e k)) r m) : MI e M (A.set m (A.getD m [] ++ [r])) (k + 1) := by
  have g : ∀ x, (A.set m (A.getD m [] ++ [r])).getD x [] = if x = m then A.getD m [] ++ [r] else A.getD x [] := fun x => by
    by_cases e : x = m
    · subst e; simp [show x < A.length by omega]
    · rw [if_neg e]; simp [List.getElem?_set_ne (fun h => e h.symm)]
  refine ⟨fun x y => ?_, fun x => ?_⟩
  · rw [mK_neg he hw, g]
    split
    · rename_i e; subst e
      simp only [List.mem_append, List.mem_singleton, h.edge, Prod.mk.injEq, true_and]
    · rename_i e
      simp only [List.mem_append, List.mem_singleton, h.edge, Prod.mk.injEq, e, false_and, or_false]
  · rw [g]; split
    · have := h.deg m; rw [List.length_append, List.length_singleton]; omega
    · have := h.deg x; omega

set_option maxHeartbeats 6400000 in
set_option maxRecDepth 1000000 in
theorem model_any (w : World) (a : Option Addr) (len cap : Nat) (L : List (ByteArray × ByteArray)) (hL : L.length = len) (hlen : len ≤ 1024)
    (hz : ∀ i, i < len → ∃ a0, a = some a0 ∧ w.cell? ⟨(a0.add (i * 3)).block, (a0.add (i * 3)).off + 1, none⟩ = some (.string (L.getD i (⟨#[]⟩, ⟨#[]⟩)).1) ∧ w.cell? ⟨(a0.add (i * 3)).block, (a0.add (i * 3)).off + 2, none⟩ = some (.string (L.getD i (⟨#[]⟩, ⟨#[]⟩)).2)) :
    Calls Yba.prog 13 #[.slice a len cap] w fun r w' => ∃ v, r = .returned v ∧ Sep w w' [Res.row 3 1 v (mC (eOf L) len).length (nats (mC (eOf L) len))] := by
  obtain ⟨i3, hi3, hz3, hs3, hb3⟩ := info_parts Yba.infoC3
  have h2 : (2 : Int) * (len : Int) = ((2 * len : Nat) : Int) := by omega
  have hM : 2 * len ≤ 2048 := by omega
  generalize hMe : 2 * len = M at *
  have HM := Hid.mk' hMe
  clear hMe
  have hmk1 := run_make_row' (P := Yba.prog) 66 28 (.slice none 0 0) 24 Yba.underlying66 Yba.info28 rfl .i64 .i64 M (by omega) (by omega)
  have hmk2 := run_make_row' (P := Yba.prog) 73 4 (.bool false) 1 Yba.underlying73 Yba.info4 rfl .i64 .i64 M (by omega) (by omega)
  have S0 : Sep w w [] := Sep.nil (Keeps.refl _ w)
  have S1 := (S0.blkAt #[.slice none 0 0] 72 rfl).adjAt M (by omega) (show (w.alloc (.cells #[.slice none 0 0] 72)).heap.size = w.heap.size + 1 by simp)
  have S2 := (S1.nilRow 9 1).nilRow 3 1
  have S2 : Sep w ((w.alloc (.cells #[.slice none 0 0] 72)).alloc (.cells (madeCells #[Value.slice none 0 0] M) 28)) [Res.row 3 1 (.slice none 0 0) 0 [], Res.row 9 1 (.slice none 0 0) 0 [], Res.adj (w.heap.size + 1) M (List.replicate M (.slice none 0 0)) (List.replicate M []), Res.blk w.heap.size #[.slice none 0 0] 72] := S2
  have hnl : ∀ k, k ≤ len → (nm L k).length ≤ M := fun k hk => by have := nm_len L k; have := HM.out; omega
  have helt : ∀ k m r, k < len → (eOf L).getD k (0, 0) = (m, r) → m < M ∧ r < M := fun k m r hk he => by
    have hk' : k < (eOf L).length := by rw [eOf_len]; omega
    have h1 := eOf_lt L (m, r) (by rw [← he]; simp [hk'])
    have := hnl L.length (by omega)
    exact ⟨by have := h1.1; simp only at this; omega, by have := h1.2; simp only at this; omega⟩
  have hKlt : ∀ k, k ≤ len → ∀ x y, (x, y) ∈ mK (eOf L) k → x < M ∧ y < M := fun k hk x y hm => by
    have h1 := eOf_lt L (x, y) (mK_sub (eOf L) k (by rw [eOf_len]; omega) _ hm)
    have := hnl L.length (by omega)
    exact ⟨by have := h1.1; simp only at this; omega, by have := h1.2; simp only at this; omega⟩
  have HE := Hid.mk' helt
  have HK := Hid.mk' hKlt
  clear helt hKlt
  go_enter Yba.func13, Yba.ntmps13
  go_wp2
  go_loopw [6, 7, 8, 9, 10, 11, 12, 13, 14, 15, 16] (fun vC vk _ _ _ _ _ _ _ _ _ wx => ∃ (k : Nat) (A : List (List Nat)) (vs : List Value) (vn : Value), k ≤ len ∧ vk = .int .i64 k ∧ MI (eOf L) M A k ∧ (mC (eOf L) k).length ≤ k ∧ Sep w wx [Res.blk w.heap.size #[vn] 72, Res.row 9 1 vn (nm L k).length (strs (nm L k)), Res.adj (w.heap.size + 1) M vs A, Res.row 3 1 vC (mC (eOf L) k).length (nats (mC (eOf L) k))]) (fun _ vk _ _ _ _ _ _ _ _ _ _ => len - (intOf vk).toNat)
  case atStart => exact ⟨0, _, _, _, by omega, rfl, MI.start _ _, by simp [mC], S2.perm (List.reverse_perm [_, _, _, _] |>.symm.trans (List.Perm.cons _ (.swap _ _ _)))⟩
  case round =>
    clear S0 S1 S2
    obtain ⟨k, A, vs, vn, hk, rfl, hMI, hmc, S⟩ := hrel
    by_cases hlt : k < len
    · obtain ⟨a0, rfl, z1, z2⟩ := hz k hlt
      clear hz
      have st : ∀ {p : Addr} {v : Value}, w.cell? p = some v → ∀ wx, Keeps (fun _ => False) w wx → wx.cell? p = some v := fun {p v} h wx hk => (hk.cell (World.block_lt_of_cell? w _ h) (fun h => h)).trans h
      have z1' := st z1 wr S.base
      obtain ⟨ms, rs', hLk⟩ : ∃ ms rs', L.getD k (⟨#[]⟩, ⟨#[]⟩) = (ms, rs') := ⟨_, _, rfl⟩
      rw [hLk] at z1' z2
      have HLk := Hid.mk' hLk
      clear hLk
      have x0 : (k : Int) < (len : Int) := by omega
      have x1 : (0 : Int) ≤ (k : Int) := by omega
      have hn1 := hnl k hk
      go_wp2_with fail
      refine (bid_any S ms (by omega)).mono ?_
      rintro r w1 ⟨i, n1, vn1, rfl, hi, hor1, S1⟩
      have e1 := addN_of hi hor1
      have z2' := st z2 w1 S1.base
      have hn1l : n1.length ≤ 100000 := by rw [e1]; have := addN_len (nm L k) ms; omega
      clear S z1 z2 z1' hor1
      go_wp2_with fail
      refine (bid_any S1 rs' hn1l).mono ?_
      rintro r w2 ⟨j, n2, vn2, rfl, hj, hor2, S2⟩
      have e2 := addN_of hj hor2
      obtain ⟨hek, hn2e⟩ := eOf_get L k (by omega) HLk.out e1 hi e2 hj
      have hmr := HE.out k i j hlt hek
      subst hn2e
      have hd := fun x => hMI.deg x
      have hKl := HK.out k hk
      have HI := Hid.mk' hMI
      have HEK := Hid.mk' hek
      have HMC := Hid.mk' hmc
      have HKL := Hid.mk' hKl
      clear S1 st e1 e2 hi hj hor2 hn1l z2' hMI hek hmc HLk hKl
      by_cases hij : i = j
      · subst hij
        have hmc' := HMC.out
        have hC1 := mC_pos HEK.out (Way.refl (R := In (mK (eOf L) k)) i)
        have hI1 := HI.out.same HEK.out (Way.refl _)
        have HC1 := Hid.mk' hC1
        have HI1 := Hid.mk' hI1
        clear hC1 hI1
        have S3 := S2.p4.quiet ((Keeps.refl (fun _ => False) w2).alloc (.cells #[.int .i64 (k : Int)] 3))
        generalize hCe : mC (eOf L) k = C at *
        clear hCe
        have hO : World.ownsRow _ 0 3 1 u6 C.length (nats C) := S3.head
        go_wp2_with (at_builtin; refine wpList_app _ rfl (.tmp 45) (.tmp 47) 28 rfl 3 i3 (.int .i64 0) 1 8 Yba.underlying28 hi3 hz3 hs3 hb3 rfl (by omega) u6 C.length (nats C) rfl hO 1 [.int .i64 (k : Int)] (Src.one_new w2 _ _ rfl) (by unfold maxLen; omega) (by omega) ?_; intro x7 w7 hA7 hn7)
        have S4 := (S3.app hA7).q4
        go_roundw
        case rel =>
          refine ⟨k + 1, A, vs, vn2, by omega, by go_num, HI1.out, ?_, ?_⟩
          · rw [HC1.out]; simp; exact hmc'
          · rw [HC1.out, nats_append, show (C ++ [k]).length = C.length + 1 by simp]; exact S4
        case measure => simp [intOf]; omega
      · have hne : ((i : Int) == (j : Int)) = false := by simp; omega
        have T1 := S2.browAt M (by omega) rfl
        have T2 := T1.oneAt j (show (w2.alloc (.cells (madeCells #[Value.bool false] M) 4)).heap.size = w2.heap.size + 1 by simp)
        have T3 := T2.p2.store j (.bool true)
        rw [← bools'_set] at T3
        have hro : World.ownsRow _ 0 4 1 (.slice (some ⟨w2.heap.size, 0, none⟩) M M) M (bools' (List.replicate M false)) := T2.p2.head
        have hcj : ((w2.alloc (.cells (madeCells #[Value.bool false] M) 4)).alloc (.cells #[.int .i64 (j : Int)] 3)).cell? ⟨w2.heap.size, j, none⟩ = some (.bool false) := by
          rw [hro.cellAt j (by omega), bools'_get _ j (by simp; omega)]
          simp only [List.getD_eq_getElem?_getD, List.getElem?_replicate]; split <;> rfl
        have hfj : ((w2.alloc (.cells (madeCells #[Value.bool false] M) 4)).alloc (.cells #[.int .i64 (j : Int)] 3)).frozen? ⟨w2.heap.size, j, none⟩ = false := hro.frozenAt j
        have x3 : (j : Int) < (M : Int) := by omega
        have x4 : (0 : Int) ≤ (j : Int) := by omega
        clear hro
        go_upto_region 14 with fail
        generalize hg1 : w2.heap.size = gs at *
        generalize ((w2.alloc (.cells (madeCells #[Value.bool false] M) 4)).alloc (.cells #[.int .i64 (j : Int)] 3)) = w3' at *
        clear T1 T2 S2 hg1
        go_wp2
        have hB0 := Bf.start A j i M hmr.2
        have hun : unseen 1 (b2n ((List.replicate M false).set j true)) + 1 = M := by
          rw [b2n_set]
          have h1 := unseen_set 1 (b2n (List.replicate M false)) j (by rw [b2n_len]; simp; omega) (by rw [b2n_get]; simp only [List.getD_eq_getElem?_getD, List.getElem?_replicate]; split <;> simp)
          have h3 : unseen 1 (b2n (List.replicate M false)) = M := by unfold unseen b2n; simp
          omega
        have hsl0 : ((List.replicate M false).set j true).length = M := by simp
        generalize (List.replicate M false).set j true = seen0 at *
        generalize (w3'.setCell ⟨gs, j, none⟩ (.bool true)) = w3 at *
        clear hcj hfj
        have HU := Hid.mk' hun
        clear hun
        go_loopg [11, 12, 13, 14, 15, 16] M (fun n vQ vf vq _ _ _ wx => ∃ (Q : List Nat) (q : Nat) (seen : List Bool), n + q = Q.length + unseen 1 (b2n seen) ∧ Q.length + unseen 1 (b2n seen) ≤ M ∧ vf = .bool false ∧ vq = .int .i64 q ∧ Bf A j i M seen Q q ∧ seen.length = M ∧ Sep w wx [Res.row 4 1 (.slice (some ⟨gs, 0, none⟩) M M) M (bools' seen), Res.row 3 1 vQ Q.length (nats Q), Res.blk w.heap.size #[vn2] 72, Res.row 9 1 vn2 (nm L (k + 1)).length (strs (nm L (k + 1))), Res.adj (w.heap.size + 1) M vs A, Res.row 3 1 u6 (mC (eOf L) k).length (nats (mC (eOf L) k))])
        case atStart => exact ⟨[j], 0, seen0, by have := HU.out; simp; omega, by have := HU.out; simp; omega, rfl, rfl, hB0, hsl0, T3⟩
        case round =>
          clear T3 hB0 hsl0 HU
          obtain ⟨Q, q, seen, hnq, hQM, rfl, rfl, hB, hsl, S⟩ := hrel
          obtain ⟨aQ, cQ, hvQ⟩ := own_sliceB (show wr.ownsRow 0 3 1 u11 Q.length (nats Q) from S.tail.head)
          subst hvQ
          have hqle := hB.le
          by_cases hqlt : q < Q.length
          · obtain ⟨v, hv⟩ : ∃ v, Q[q]? = some v := ⟨Q[q], List.getElem?_eq_getElem hqlt⟩
            have hvM : v < M := by
              have hx : v ∈ Q.drop q := by
                have := List.getElem?_drop (xs := Q) (i := q) (j := 0)
                rw [Nat.add_zero, hv] at this
                exact List.mem_of_getElem? this
              exact (hB.side.stk v hx).1
            obtain ⟨gq, cq, hgq, -, -, hcell⟩ := own_atB (show wr.ownsRow 0 3 1 (.slice aQ Q.length cQ) Q.length (nats Q) from S.tail.head) (by omega)
            injection hgq with g1 _ g3
            subst g1
            subst g3
            have d0 : wr.cell? ⟨gq, q, none⟩ = some (.int .i64 (v : Int)) := by rw [(hcell q hqlt).1]; simp [nats, hv]
            have y0 : (q : Int) < (Q.length : Int) := by omega
            have y1 : (0 : Int) ≤ (q : Int) := by omega
            clear hcell
            by_cases hvi : v = i
            · subst hvi
              have hw := (HI.out.way).1 (hB.found hv)
              have hC1 := mC_pos HEK.out hw
              have hI1 := HI.out.same HEK.out hw
              have hmc' := HMC.out
              have HC1 := Hid.mk' hC1
              have HI1 := Hid.mk' hI1
              clear hC1 hI1 hw hv hB
              have S3 := S.tail.tail.p4.quiet ((Keeps.refl (fun _ => False) wr).alloc (.cells #[.int .i64 (k : Int)] 3))
              generalize hCe : mC (eOf L) k = C at *
              clear hCe S
              have hO : World.ownsRow _ 0 3 1 u6 C.length (nats C) := S3.head
              go_wp2_with (at_builtin; refine wpList_app _ rfl (.tmp 99) (.tmp 101) 28 rfl 3 i3 (.int .i64 0) 1 8 Yba.underlying28 hi3 hz3 hs3 hb3 rfl (by omega) u6 C.length (nats C) rfl hO 1 [.int .i64 (k : Int)] (Src.one_new wr _ _ rfl) (by unfold maxLen; omega) (by omega) ?_; intro x7 w7 hA7 hn7)
              have S4 := (S3.app hA7).q4
              go_roundw
              case rel =>
                refine ⟨k + 1, A, vs, vn2, by omega, by go_num, HI1.out, ?_, ?_⟩
                · rw [HC1.out]; simp; exact hmc'
                · rw [HC1.out, nats_append, show (C ++ [k]).length = C.length + 1 by simp]; exact S4
              case measure => simp [intOf]; omega
            · have hvi' : ((v : Int) == (i : Int)) = false := by simp; omega
              have hAlt : ∀ x ∈ A.getD v [], x < M := fun x hx => (HKL.out v x ((HI.out.edge v x).1 hx)).2
              have hdv := hd v
              generalize hws : A.getD v [] = ws at *
              have HWS := Hid.mk' hws
              have HB := Hid.mk' hB
              have HV := Hid.mk' hv
              have HNQ := Hid.mk' hnq
              have HAL := Hid.mk' hAlt
              have hdvb : ws.length ≤ 2000 := by omega
              have y2 : (v : Int) < (M : Int) := by omega
              have y3 : (0 : Int) ≤ (v : Int) := by omega
              clear hws hB hv hnq hAlt hdv hd hqle
              go_wp2
              clear d0
              go_loopw [11, 15, 16] (fun vQ vt _ wx => ∃ (t : Nat) (T : List Nat) (seen' : List Bool), t ≤ ws.length ∧ vt = .int .i64 t ∧ StepI ws (b2n seen) [] 1 t (b2n seen') T ∧ seen'.length = M ∧ Sep w wx [Res.row 4 1 (.slice (some ⟨gs, 0, none⟩) M M) M (bools' seen'), Res.row 3 1 vQ (Q ++ T).length (nats (Q ++ T)), Res.blk w.heap.size #[vn2] 72, Res.row 9 1 vn2 (nm L (k + 1)).length (strs (nm L (k + 1))), Res.adj (w.heap.size + 1) M vs A, Res.row 3 1 u6 (mC (eOf L) k).length (nats (mC (eOf L) k))]) (fun _ vt _ _ => ws.length - (intOf vt).toNat)
              case atStart => exact ⟨0, [], seen, by omega, rfl, StepI.start _ _ _ _, hsl, by rw [List.append_nil]; exact S⟩
              case round =>
                clear S
                obtain ⟨t, T, seen', ht, rfl, hSt, hsl', S⟩ := hrel
                obtain ⟨va, hva, hvc, hvf, hvo⟩ := Adj.at_ (show Adj wr (w.heap.size + 1) M vs A from S.tail.tail.tail.tail.head) v hvM
                rw [HWS.out] at hvo
                obtain ⟨aw, cw, hvw⟩ := own_sliceB hvo
                subst hvw
                by_cases htl : t < ws.length
                · obtain ⟨gw, cw', hgw, -, -, hcw⟩ := own_atB hvo (by omega)
                  injection hgw with g1 _ g3
                  subst g1
                  subst g3
                  obtain ⟨x, hx⟩ : ∃ x, ws[t]? = some x := ⟨ws[t], List.getElem?_eq_getElem htl⟩
                  have hxM := HAL.out x (List.mem_of_getElem? hx)
                  have d0 : wr.cell? ⟨gw, t, none⟩ = some (.int .i64 (x : Int)) := by rw [(hcw t htl).1]; simp [nats, hx]
                  have hrs : wr.ownsRow 0 4 1 (.slice (some ⟨gs, 0, none⟩) M M) M (bools' seen') := S.head
                  have d1 : wr.cell? ⟨gs, x, none⟩ = some (.bool (seen'.getD x false)) := by rw [hrs.cellAt x (by omega)]; exact bools'_get seen' x (by omega)
                  have f1 : wr.frozen? ⟨gs, x, none⟩ = false := hrs.frozenAt x
                  have u0 : (t : Int) < (ws.length : Int) := by omega
                  have u1 : (0 : Int) ≤ (t : Int) := by omega
                  have u2 : (x : Int) < (M : Int) := by omega
                  have u3 : (0 : Int) ≤ (x : Int) := by omega
                  obtain ⟨bx, hbx⟩ : ∃ bx, seen'.getD x false = bx := ⟨_, rfl⟩
                  rw [hbx] at d1
                  have HBX := Hid.mk' hbx
                  have HX := Hid.mk' hx
                  clear hcw hrs hbx hx hvo hvf
                  cases bx with
                  | true =>
                    have hS2 := hSt.skip HX.out (by simp) ((b2n_one seen' x).2 HBX.out)
                    go_wp2
                    go_roundw
                    case rel => exact ⟨t + 1, T, seen', by omega, by go_num, hS2, hsl', S⟩
                    case measure => simp [intOf]; omega
                  | false =>
                    have hS2 := hSt.push HX.out (by simp) (fun h => by have := (b2n_one seen' x).1 h; rw [HBX.out] at this; cases this) (by rw [b2n_len]; omega)
                    rw [← b2n_set] at hS2
                    have htl2 := hSt.tl
                    have hQl : Q.length ≤ 2048 := by omega
                    have S5 := S.store x (.bool true)
                    rw [← bools'_set] at S5
                    go_upto_region 28 with fail
                    generalize (wr.setCell ⟨gs, x, none⟩ (.bool true)) = w5 at *
                    clear S d0 d1 f1 hvc
                    have S6 := S5.p2.quiet ((Keeps.refl (fun _ => False) w5).alloc (.cells #[.int .i64 (x : Int)] 3))
                    have hlQT : (Q ++ T).length ≤ 10000 := by rw [List.length_append]; omega
                    obtain ⟨nq, hnqe⟩ : ∃ nq, (Q ++ T).length = nq := ⟨_, rfl⟩
                    rw [hnqe] at S6 hlQT
                    have HNQE := Hid.mk' hnqe
                    clear hnqe
                    have hO : World.ownsRow _ 0 3 1 u11 nq (nats (Q ++ T)) := S6.head
                    go_wp2_with (at_builtin; refine wpList_app _ rfl (.tmp 94) (.tmp 96) 28 rfl 3 i3 (.int .i64 0) 1 8 Yba.underlying28 hi3 hz3 hs3 hb3 rfl (by omega) u11 nq (nats (Q ++ T)) rfl hO 1 [.int .i64 (x : Int)] (Src.one_new w5 _ _ rfl) (by unfold maxLen; omega) (by omega) ?_; intro x7 w7 hA7 hn7)
                    have S7 := (S6.app hA7).p2
                    go_roundw
                    case rel =>
                      refine ⟨t + 1, T ++ [x], seen'.set x true, by omega, by go_num, hS2, by simp [hsl'], ?_⟩
                      rw [← List.append_assoc, nats_append (Q ++ T), show (Q ++ T ++ [x]).length = nq + 1 by rw [List.length_append, HNQE.out]; rfl]
                      exact S7
                    case measure => simp [intOf]; omega
                · have hte : t = ws.length := by omega
                  have hBn := HB.out.next HV.out hvi (by rw [HWS.out]; exact HAL.out) (by rw [HWS.out]; exact hSt) (by rw [HWS.out]; exact hte)
                  have hcnt := hSt.cnt
                  have hnq' := HNQ.out
                  have hkk : ∃ g', gk = g' + 1 := ⟨gk - 1, by omega⟩
                  obtain ⟨g', hg'⟩ := hkk
                  have HG := Hid.mk' hg'
                  have HBN := Hid.mk' hBn
                  have HCN := Hid.mk' hcnt
                  have HTE := Hid.mk' hte
                  clear hBn hcnt hnq' hg' hSt hvo hvf hte
                  go_wp2
                  go_roundg g'
                  case measure => have := HG.out; omega
                  case rel =>
                    refine ⟨Q ++ T, q + 1, seen', ?_, ?_, rfl, by go_num, HBN.out, hsl', S⟩
                    · have h1 := HG.out; have h2' := HNQ.out; have h3 := HCN.out; rw [List.length_append]; omega
                    · have h3 := HCN.out; rw [List.length_append]; omega
          · have hqe : q = Q.length := by omega
            subst hqe
            have hnw : ¬ Way (In (mK (eOf L) k)) j i := fun hw => hB.none ((HI.out.way).2 hw)
            have hC1 := mC_neg HEK.out hnw
            have hlenA : A.length = M := (show Adj wr (w.heap.size + 1) M vs A from S.tail.tail.tail.tail.head).len
            have hI1 := HI.out.add hlenA hmr.1 HEK.out hnw
            have hmc' := HMC.out
            have HC1 := Hid.mk' hC1
            have HI1 := Hid.mk' hI1
            clear hC1 hI1 hnw hB
            have S3 := S.tail.tail.p3.quiet ((Keeps.refl (fun _ => False) wr).alloc (.cells #[.int .i64 (j : Int)] 3))
            obtain ⟨va, hva, hvc, hvf, -⟩ := Adj.at_ (show Adj wr (w.heap.size + 1) M vs A from S.tail.tail.tail.tail.head) i hmr.1
            have hO := (Adj.get (show Adj _ (w.heap.size + 1) M vs A from S3.head) hva).2.2
            have hdi := hd i
            have y4 : (i : Int) < (M : Int) := by omega
            have y5 : (0 : Int) ≤ (i : Int) := by omega
            obtain ⟨Ai, hAi⟩ : ∃ Ai, A.getD i [] = Ai := ⟨_, rfl⟩
            rw [hAi] at hO hdi
            have HAi := Hid.mk' hAi
            clear S hAi hd
            go_wp2_with (at_builtin; refine wpList_app _ rfl (.tmp 108) (.tmp 110) 28 rfl 3 i3 (.int .i64 0) 1 8 Yba.underlying28 hi3 hz3 hs3 hb3 rfl (by omega) va Ai.length (nats Ai) rfl hO 1 [.int .i64 (j : Int)] (Src.one_new wr _ _ rfl) (by unfold maxLen; omega) (by omega) ?_; intro x7 w7 hA7 hn7; obtain ⟨S9, g0, g1⟩ := S3.adjApp hva hA7; obtain ⟨a7, c7, e7⟩ := own_sliceB hA7.own; subst e7)
            have S4 := (S3.adjPush (u := j) hva (show Ai.length + 1 = _ by rw [HAi.out]) (by rw [HAi.out]; exact hA7)).q3
            go_roundw
            case rel =>
              refine ⟨k + 1, A.set i (A.getD i [] ++ [j]), vs.set i (.slice a7 (Ai.length + 1) c7), vn2, by omega, by go_num, HI1.out, ?_, ?_⟩
              · rw [HC1.out]; omega
              · rw [HC1.out]; exact S4
            case measure => simp [intOf]; omega
    · obtain rfl : k = len := by omega
      clear hz
      have S' := S.p4
      have S3 : Sep w wr [Res.row 3 1 u6 (mC (eOf L) k).length (nats (mC (eOf L) k))] := ⟨S'.base, fun r hr => S'.all r (by simp at hr ⊢; exact .inl hr), by simp, fun r hr => S'.new r (by simp at hr ⊢; exact .inl hr)⟩
      clear S S'
      go_wp2
      go_ret
      exact ⟨_, rfl, S3⟩
end Go.Proofs.Ybulkcdco
