import Derived.Test.YbulkcdcoCmp
import Derived.Test.YbulkcdcoRch
import Derived.Test.YbulkcdcoCy
import Derived.Test.YbulkcdcoIds
import Derived.Test.YbulkcdcoRws
namespace Go.Proofs.Ybulkcdco
open Go.RowKit

theorem Yba.info65 : (Yba.prog.info? 65).map (fun i => (i.zero, i.size, i.bytes)) = some (some (.agg #[.int .i64 0, .int .i64 0]), 2, 16) := by kernel_rfl
theorem own_cell {w : World} {e : TypeId} {z g n c : Nat} {xs : List Value} (h : w.ownsRow 0 e z (.slice (some ⟨g, 0, none⟩) n c) n xs) {j : Nat} {u : Value} (hu : xs[j]? = some u) : w.cell? ⟨g, j, none⟩ = some u := by
  have := h.cells (g := g) rfl j u hu
  rwa [addr0] at this

set_option maxHeartbeats 6400000 in
set_option maxRecDepth 1000000 in
theorem cyc_any {w0 w : World} {gr n : Nat} {R : List (Int × ByteArray × ByteArray)} {rs : List Res} (S : Sep w0 w (Res.row 53 3 (.slice (some ⟨gr, 0, none⟩) n n) n (rls R) :: rs)) (hR : R.length = n) (hn : n ≤ 1024) (hsz : ∀ p ∈ R, p.2.1.size ≤ maxLen ∧ p.2.2.size ≤ maxLen) :
    Calls Yba.prog 11 #[.slice (some ⟨gr, 0, none⟩) n n] w fun r w' => ∃ v, r = .returned v ∧ Sep w0 w' (Res.row 3 1 v (mC (eOf (R.map Prod.snd)) n).length (nats (mC (eOf (R.map Prod.snd)) n)) :: Res.row 53 3 (.slice (some ⟨gr, 0, none⟩) n n) n (rls R) :: rs) := by
  obtain ⟨i3, hi3, hz3, hs3, hb3⟩ := info_parts Yba.infoC3
  have hmk1 := make_run (P := Yba.prog) 64 65 (.agg #[.int .i64 0, .int .i64 0]) #[.int .i64 0, .int .i64 0] 2 16 Yba.underlying64 Yba.info65 rfl n (by omega) (by omega)
  have hmm := @run_makeMap Yba.prog
  have hmf : ∀ (fn : Fn) (first cap : Array Value) (w : World), (Instr.makeFunc fn first cap).run Yba.prog w = .ok (.func fn first cap) w := fun _ _ _ _ => rfl
  have z1 : ∀ (W : World) (o : Obj) {h : Nat}, W.heap.size = h → (W.alloc o).heap.size = h + 1 := fun W o h e => by simp [e]
  obtain ⟨L, hL⟩ : ∃ L, R.map Prod.snd = L := ⟨_, rfl⟩
  have hLl : L.length = n := by rw [← hL, List.length_map, hR]
  rw [hL]
  have HL := Hid.mk' hL
  obtain ⟨e, he⟩ : ∃ e, eOf L = e := ⟨_, rfl⟩
  rw [he]
  have HE := Hid.mk' he
  clear hL he
  obtain ⟨h, hh⟩ : ∃ h, w.heap.size = h := ⟨_, rfl⟩
  have S1 := S.idmAt hh
  have e1 := z1 w (.map #[] 0) hh
  have S2 := S1.blkAt #[.map (some h)] 61 e1
  have e2 := z1 _ (.cells #[.map (some h)] 61) e1
  have S3 := (S2.madeAt 65 (madeCells #[.int .i64 0, .int .i64 0] (n * 2)) 2 n (size_madeCells _ _) (by omega) e2).q3
  rw [← prs_rep] at S3
  clear S S1 S2 e1 e2
  go_enter Yba.func11, Yba.ntmps11
  go_wp2
  clear hmk1 hmf z1 hh
  generalize h + 1 + 1 = ge at *
  generalize h + 1 = bm at *
  generalize (((w.alloc (.map #[] 0)).alloc (.cells #[.map (some h)] 61)).alloc (.cells (madeCells #[.int .i64 0, .int .i64 0] (n * 2)) 65)) = w1 at *
  generalize h = B at *
  go_loopw [6, 7, 25] (fun _ _ vi wx => ∃ (i : Nat) (E : List (Nat × Nat)), i ≤ n ∧ vi = .int .i64 i ∧ E.length = n ∧ (∀ j, j < i → E.getD j (0, 0) = e.getD j (0, 0)) ∧ Sep w0 wx (Res.blk bm #[.map (some B)] 61 :: Res.idm B (nm L i) :: Res.row 65 2 (.slice (some ⟨ge, 0, none⟩) n n) n (prs E) :: Res.row 53 3 (.slice (some ⟨gr, 0, none⟩) n n) n (rls R) :: rs)) (fun _ _ vi _ => n - (intOf vi).toNat)
  case atStart => exact ⟨0, List.replicate n (0, 0), by omega, rfl, by simp, (fun j hj => by omega), S3⟩
  case round =>
    clear S3
    obtain ⟨i, E, hi, rfl, hEl, hEe, S⟩ := hrel
    by_cases hlt : i < n
    · have x0 : (i : Int) < (n : Int) := by omega
      have x1 : (0 : Int) ≤ (i : Int) := by omega
      obtain ⟨l, m, r', hRi⟩ : ∃ l m r', R.getD i r0 = (l, m, r') := ⟨_, _, _, rfl⟩
      have hRm : (l, m, r') ∈ R := by rw [← hRi]; simp [show i < R.length by omega]
      have hLi : L.getD i (⟨#[]⟩, ⟨#[]⟩) = (m, r') := by
        have h1 : i < R.length := by omega
        have h2 : R[i] = (l, m, r') := by simpa [h1] using hRi
        rw [← HL.out]
        simp [h1, h2]
      obtain ⟨hs1, hs2⟩ := hsz _ hRm
      have hrow : wr.ownsRow 0 53 3 (.slice (some ⟨gr, 0, none⟩) n n) n (rls R) := S.p4.head
      obtain ⟨g0, g1, g2⟩ := rls_get R i (by omega)
      rw [hRi] at g0 g1 g2
      have c0 : wr.cell? ⟨gr, i * 3, none⟩ = some (.int .i64 l) := own_cell hrow g0
      have c1 : wr.cell? ⟨gr, i * 3 + 1, none⟩ = some (.string m) := own_cell hrow g1
      have c2 : wr.cell? ⟨gr, i * 3 + 2, none⟩ = some (.string r') := own_cell hrow g2
      obtain ⟨b7, hb7⟩ : ∃ b7, wr.heap.size = b7 := ⟨_, rfl⟩
      have S1 := (S.blkAt #[.int .i64 l, .string m, .string r'] 53 hb7).q3
      have HRI := Hid.mk' hRi
      have HLI := Hid.mk' hLi
      have HEE := Hid.mk' hEe
      clear S hrow g0 g1 g2 hRi hLi hEe
      go_upto_region 7 with fail
      generalize (wr.alloc (.cells #[.int .i64 l, .string m, .string r'] 53)) = w2 at *
      clear c0 c1 c2
      have Sq := S1.quiet ((Keeps.refl (fun _ => False) w2).drew)
      have hb2 : w2.heap[b7]? = _ := S1.tail.tail.head
      have hb2q : w2.drew.heap[b7]? = _ := Sq.tail.tail.head
      have f1 : w2.drew.cell? ⟨b7, 1, none⟩ = some (.string m) := cell_of_row w2.drew b7 1 _ 53 (0, 0) hb2q
      have f2 : w2.drew.cell? ⟨b7, 2, none⟩ = some (.string r') := cell_of_row w2.drew b7 2 _ 53 (0, 0) hb2q
      refine wp_region_noPanic ?_
      go_region_held3 (fun w' => w'.cell? ⟨b7, 1, none⟩ = some (.string m) ∧ w'.cell? ⟨b7, 2, none⟩ = some (.string r')) (first | exact ⟨t1, t2⟩ | exact ⟨k1, k2⟩ | exact ⟨y1, y2⟩ | exact ⟨f1, f2⟩ | assumption) ((first
        | (go_at_call_of 15 (Value.string m); refine (id_any Sq m hs1).mono ?_; rintro e1 w3 ⟨a, n1, rfl, ha, hor1, S2⟩; have hb3 : w3.heap[b7]? = _ := S2.tail.tail.head; have y1 : w3.cell? ⟨b7, 1, none⟩ = some (.string m) := cell_of_row w3 b7 1 _ 53 (0, 0) hb3; have y2 : w3.cell? ⟨b7, 2, none⟩ = some (.string r') := cell_of_row w3 b7 2 _ 53 (0, 0) hb3)
        | (go_at_call_of 15 (Value.string r'); refine (id_any S2 r' hs2).mono ?_; rintro e2 w4 ⟨b, n2, rfl, hb, hor2, S3⟩; have hb4 : w4.heap[b7]? = _ := S3.tail.tail.head; have k1 : w4.cell? ⟨b7, 1, none⟩ = some (.string m) := cell_of_row w4 b7 1 _ 53 (0, 0) hb4; have k2 : w4.cell? ⟨b7, 2, none⟩ = some (.string r') := cell_of_row w4 b7 2 _ 53 (0, 0) hb4; have hr4 : w4.ownsRow 0 65 2 (.slice (some ⟨ge, 0, none⟩) n n) n (prs E) := S3.p4.head; have d0 : w4.cell? ⟨ge, i * 2, none⟩ = some (.int .i64 ((E.getD i (0, 0)).1 : Int)) := own_cell hr4 (prs_get E i (by omega)).1; have d1 : w4.cell? ⟨ge, i * 2 + 1, none⟩ = some (.int .i64 ((E.getD i (0, 0)).2 : Int)) := own_cell hr4 (prs_get E i (by omega)).2; have q0 : w4.frozen? ⟨ge, i * 2, none⟩ = false := hr4.frozenAt _; have q1 : w4.frozen? ⟨ge, i * 2 + 1, none⟩ = false := hr4.frozenAt _; have S4 := ((S3.p4.store (i * 2) (.int .i64 (a : Int))).store (i * 2 + 1) (.int .i64 (b : Int))).q4; have hb5 : ((w4.setCell ⟨ge, i * 2, none⟩ (.int .i64 (a : Int))).setCell ⟨ge, i * 2 + 1, none⟩ (.int .i64 (b : Int))).heap[b7]? = _ := S4.tail.tail.head; have t1 := cell_of_row _ b7 1 _ 53 (0, 0) hb5; have t2 := cell_of_row _ b7 2 _ 53 (0, 0) hb5)))
      all_goals
        have e1 := addN_of ha hor1
        have e2 := addN_of hb hor2
        obtain ⟨hek, hn2e⟩ := eOf_get L i (by omega) HLI.out e1 ha e2 hb
        rw [HE.out] at hek
        rw [hn2e, ← prs_set] at S4
        have S5 := S4.p3.tail
        have hEe' : ∀ j, j < i + 1 → (E.set i (a, b)).getD j (0, 0) = e.getD j (0, 0) := fun j hj => by
          by_cases hji : j = i
          · subst hji; rw [hek]; simp [show j < E.length by omega]
          · rw [← HEE.out j (by omega)]; simp [List.getElem?_set_ne (fun h => hji h.symm)]
        have HEE' := Hid.mk' hEe'
        refine NoPanic.normal ?_
        generalize ((w4.setCell ⟨ge, i * 2, none⟩ (.int .i64 (a : Int))).setCell ⟨ge, i * 2 + 1, none⟩ (.int .i64 (b : Int))) = w5 at *
        clear hEe' hek hn2e e1 e2 S4 S3 S2 Sq S1 hb2 hb2q f1 f2 hb3 y1 y2 hb4 k1 k2 hr4 d0 d1 q0 q1 hb5 t1 t2 ha hb hor1 hor2
        go_wp2
        go_roundw
        case rel => exact ⟨i + 1, E.set i (a, b), by omega, by go_num, by simp [hEl], HEE'.out, S5⟩
        case measure => simp [intOf]; omega
    · obtain rfl : i = n := by omega
      have hel : e.length = i := by rw [← HE.out, eOf_len, hLl]
      obtain rfl : E = e := by
        apply List.ext_getElem (by omega)
        intro j h1 h2
        have := hEe j (by omega)
        simpa [h1, h2] using this
      have hlt2 : ∀ p ∈ E, p.1 < (nm L i).length ∧ p.2 < (nm L i).length := by
        have := eOf_lt L
        rw [HE.out, hLl] at this
        exact this
      have hNb := nm_len L i
      have hI : Idm wr B (nm L i) := S.tail.head
      have hlen := hI.size
      have hbm : wr.heap[bm]? = _ := S.head
      have c0 : wr.cell? ⟨bm, 0, none⟩ = some (.map (some B)) := cell_of_row wr bm 0 _ 61 (0, 0) hbm
      obtain ⟨names, hnm⟩ : ∃ names, nm L i = names := ⟨_, rfl⟩
      rw [hnm] at S hlt2 hNb hI hlen
      obtain ⟨N, hNe⟩ : ∃ N, names.length = N := ⟨_, rfl⟩
      rw [hNe] at hlt2 hNb hlen
      have hmk2 := run_make_row' (P := Yba.prog) 66 28 (.slice none 0 0) 24 Yba.underlying66 Yba.info28 rfl .i64 .i64 N (by omega) (by omega)
      obtain ⟨ga, hga⟩ : ∃ ga, wr.heap.size = ga := ⟨_, rfl⟩
      have S1 := S.adjAt N (by omega) hga
      have HLT := Hid.mk' hlt2
      have HNE := Hid.mk' hNe
      clear S hI hbm hnm hEe hlt2 hNe
      go_wp2
      clear hlen c0 hmk2 hga
      generalize (wr.alloc (.cells (madeCells #[Value.slice none 0 0] N) 28)) = w2 at *
      go_loopw [10, 48] (fun _ vi wx => ∃ (k : Nat) (A : List (List Nat)) (vs : List Value), k ≤ i ∧ vi = .int .i64 k ∧ Hol A (E.take k) k ∧ Sep w0 wx (Res.adj ga N vs A :: Res.blk bm #[.map (some B)] 61 :: Res.idm B names :: Res.row 65 2 (.slice (some ⟨ge, 0, none⟩) i i) i (prs E) :: Res.row 53 3 (.slice (some ⟨gr, 0, none⟩) i i) i (rls R) :: rs)) (fun _ vi _ => i - (intOf vi).toNat)
      case atStart => exact ⟨0, _, _, by omega, rfl, by simpa using Hol.start N, S1⟩
      case round =>
        clear S1
        obtain ⟨k, A, vs, hk, rfl, hH, S⟩ := hrel
        by_cases hlt : k < i
        · have x0 : (k : Int) < (i : Int) := by omega
          have x1 : (0 : Int) ≤ (k : Int) := by omega
          obtain ⟨x, y, hxy⟩ : ∃ x y, E.getD k (0, 0) = (x, y) := ⟨_, _, rfl⟩
          have hxyE : (x, y) ∈ E := by rw [← hxy]; simp [show k < E.length by omega]
          have hxN : x < N := (HLT.out _ hxyE).1
          have hH1 : Hol (A.set x (A.getD x [] ++ [y])) (E.take (k + 1)) (k + 1) := by
            rw [take_add (by omega) hxy]
            exact hH.add (by rw [(show Adj wr ga N vs A from S.head).len]; exact hxN)
          have hdx := hH.deg x
          have hrow : wr.ownsRow 0 65 2 (.slice (some ⟨ge, 0, none⟩) i i) i (prs E) := S.p4.head
          obtain ⟨g0, g1⟩ := prs_get E k (by omega)
          rw [hxy] at g0 g1
          have c0 : wr.cell? ⟨ge, k * 2, none⟩ = some (.int .i64 (x : Int)) := own_cell hrow g0
          have c1 : wr.cell? ⟨ge, k * 2 + 1, none⟩ = some (.int .i64 (y : Int)) := own_cell hrow g1
          have x2 : (x : Int) < (N : Int) := by omega
          have x3 : (0 : Int) ≤ (x : Int) := by omega
          obtain ⟨b7, hb7⟩ : ∃ b7, wr.heap.size = b7 := ⟨_, rfl⟩
          have S1 := (S.blkAt #[.int .i64 (x : Int), .int .i64 (y : Int)] 65 hb7).p2
          have HH1 := Hid.mk' hH1
          clear S hrow g0 g1 hxy hH hH1
          go_upto_region 13 with fail
          generalize (wr.alloc (.cells #[.int .i64 (x : Int), .int .i64 (y : Int)] 65)) = w3 at *
          clear c0 c1
          obtain ⟨v, hv, hvc, hvf, hvo⟩ := Adj.at_ (show Adj w3 ga N vs A from S1.head) x hxN
          have hbd : w3.heap[b7]? = _ := S1.tail.head
          have p0 : w3.cell? ⟨b7, 0, none⟩ = some (.int .i64 (x : Int)) := cell_of_row _ b7 0 _ 65 (0, 0) hbd
          have p1 : w3.cell? ⟨b7, 1, none⟩ = some (.int .i64 (y : Int)) := cell_of_row _ b7 1 _ 65 (0, 0) hbd
          have Sa := S1.quiet ((Keeps.refl (fun _ => False) w3).alloc (.cells #[.int .i64 (y : Int)] 3))
          have Sq := Sa.quiet ((Keeps.refl (fun _ => False) _).drew)
          have hbq : (w3.alloc (.cells #[.int .i64 (y : Int)] 3)).heap[b7]? = _ := Sa.tail.head
          have p0q : (w3.alloc (.cells #[.int .i64 (y : Int)] 3)).cell? ⟨b7, 0, none⟩ = some (.int .i64 (x : Int)) := cell_of_row _ b7 0 _ 65 (0, 0) hbq
          have p1q : (w3.alloc (.cells #[.int .i64 (y : Int)] 3)).cell? ⟨b7, 1, none⟩ = some (.int .i64 (y : Int)) := cell_of_row _ b7 1 _ 65 (0, 0) hbq
          obtain ⟨hvca, hvfa, _⟩ := Adj.get (show Adj (w3.alloc (.cells #[.int .i64 (y : Int)] 3)) ga N vs A from Sa.head) hv
          obtain ⟨_, _, hvoq⟩ := Adj.get (show Adj (w3.alloc (.cells #[.int .i64 (y : Int)] 3)).drew ga N vs A from Sq.head) hv
          have hso : Src ((w3.alloc (.cells #[.int .i64 (y : Int)] 3)).drew) 1 (.slice (some ⟨w3.heap.size, 0, none⟩) 1 1) 1 [.int .i64 (y : Int)] := Src.one_new w3.drew (.int .i64 (y : Int)) 3 rfl
          clear hvo hbd hbq
          refine wp_region_noPanic ?_
          go_region_law ((refine step_app rfl (.tmp 59) (.tmp 62) 28 rfl 3 i3 (.int .i64 0) 1 8 Yba.underlying28 hi3 hz3 hs3 hb3 rfl (by omega) v (A.getD x []).length (nats (A.getD x [])) rfl hvoq (.slice (some ⟨w3.heap.size, 0, none⟩) 1 1) rfl 1 [.int .i64 (y : Int)] hso (by unfold maxLen; omega) (by omega) ?_; intro x9 w9 hA9 hn9; obtain ⟨ao9, cp9, rfl⟩ := own_sliceB hA9.own; obtain ⟨S9, g0, g1⟩ := Sq.adjApp hv hA9; have hb9 : w9.heap[b7]? = _ := S9.head; have r0 : w9.cell? ⟨b7, 0, none⟩ = some (.int .i64 (x : Int)) := cell_of_row _ b7 0 _ 65 (0, 0) hb9; have r1 : w9.cell? ⟨b7, 1, none⟩ = some (.int .i64 (y : Int)) := cell_of_row _ b7 1 _ 65 (0, 0) hb9))
          all_goals
            refine NoPanic.normal ?_
            have S10 := (Sq.adjPush hv rfl hA9).p2.tail
            go_wp2
            go_roundw
            case rel => exact ⟨k + 1, _, _, by omega, by go_num, HH1.out, S10⟩
            case measure => simp [intOf]; omega
        · obtain rfl : k = i := by omega
          have hHE : Hol A E k := by
            have h1 := hH
            rwa [List.take_of_length_le (by omega)] at h1
          have hbA := fun x => hHE.bound (N := N) (by omega) (fun p hp => (HLT.out p hp).2) x
          have HHE := Hid.mk' hHE
          clear hH hHE
          go_wp2_with fail
          refine (comps_any S (by omega) hbA).mono ?_
          rintro r w3 ⟨gc, cm, rfl, hcml, S1, hcm⟩
          have hfin : cC (fn cm) E k = mC E k := by
            have h1 := CI.fin HHE.out HLT.out hcm
            rwa [hel] at h1
          have HFIN := Hid.mk' hfin
          have hI : Idm w3 B names := S1.p4.head
          have hlen := hI.size
          rw [HNE.out] at hlen
          have hbm : w3.heap[bm]? = _ := S1.p3.head
          have c0 : w3.cell? ⟨bm, 0, none⟩ = some (.map (some B)) := cell_of_row w3 bm 0 _ 61 (0, 0) hbm
          clear S hcm hfin hI hbm hbA HHE
          go_wp2_with fail
          refine (new_any S1 N (by omega)).mono ?_
          rintro r w4 ⟨pg, go, gi, gf, gt, rfl, S2⟩
          have S3 := ((((S2.p7.tail.p7.tail.p7.tail).nilRow 3 1).nilRow 3 1).nilRow 3 1).q8.q8.q8
          have S4 : Sep w0 w4 (GrL pg go gi gf gt N 0 (List.replicate N (.slice none 0 0)) (List.replicate N (.slice none 0 0)) (List.replicate N []) (List.replicate N []) (List.replicate N 0) (List.replicate N 0) (.slice none 0 0) (.slice none 0 0) [] [] (Res.row 3 1 (.slice none 0 0) ([] : List Nat).length (nats ([] : List Nat)) :: Res.row 3 1 (.slice (some ⟨gc, 0, none⟩) N N) N (nats cm) :: Res.row 65 2 (.slice (some ⟨ge, 0, none⟩) k k) k (prs E) :: Res.row 53 3 (.slice (some ⟨gr, 0, none⟩) k k) k (rls R) :: rs)) := S3
          clear S1 S2 S3 hlen c0
          go_wp2
          go_loopw [12, 14, 15, 16, 17, 73] (fun vc _ _ _ _ vi wx => ∃ (q s : Nat) (vso vsi : List Value) (Ao Ai : List (List Nat)) (fs ts : List Nat) (vF vT : Value) (FS TT : List Nat), q ≤ k ∧ vi = .int .i64 q ∧ s ≤ q ∧ fs.length = N ∧ ts.length = N ∧ (∀ x, fs.getD x 0 ≤ s) ∧ (∀ x, ts.getD x 0 ≤ s) ∧ CI (fn cm) E N Ao Ai q ∧ Sep w0 wx (GrL pg go gi gf gt N s vso vsi Ao Ai fs ts vF vT FS TT (Res.row 3 1 vc (cC (fn cm) E q).length (nats (cC (fn cm) E q)) :: Res.row 3 1 (.slice (some ⟨gc, 0, none⟩) N N) N (nats cm) :: Res.row 65 2 (.slice (some ⟨ge, 0, none⟩) k k) k (prs E) :: Res.row 53 3 (.slice (some ⟨gr, 0, none⟩) k k) k (rls R) :: rs))) (fun _ _ _ _ _ vi _ => k - (intOf vi).toNat)
          case atStart =>
            have hz : ∀ x, (List.replicate N 0).getD x 0 ≤ 0 := fun x => by simp only [List.getD_eq_getElem?_getD, List.getElem?_replicate]; split <;> simp
            exact ⟨0, 0, _, _, _, _, _, _, _, _, [], [], by omega, rfl, by omega, by simp, by simp, hz, hz, CI.start _ _ _, S4⟩
          case round =>
            clear S4
            obtain ⟨q, s, vso, vsi, Ao, Ai, fs, ts, vF, vT, FS, TT, hq, rfl, hs, hfl, htl, hfs, hts, hCI, S⟩ := hrel
            by_cases hlt : q < k
            · have x0 : (q : Int) < (k : Int) := by omega
              have x1 : (0 : Int) ≤ (q : Int) := by omega
              obtain ⟨x, y, hxy⟩ : ∃ x y, E.getD q (0, 0) = (x, y) := ⟨_, _, rfl⟩
              have hxyE : (x, y) ∈ E := by rw [← hxy]; simp [show q < E.length by omega]
              have hxN : x < N := (HLT.out _ hxyE).1
              have hyN : y < N := (HLT.out _ hxyE).2
              have S' := S
              unfold GrL at S'
              have hrow : wr.ownsRow 0 65 2 (.slice (some ⟨ge, 0, none⟩) k k) k (prs E) := S'.p10.head
              obtain ⟨g0, g1⟩ := prs_get E q (by omega)
              rw [hxy] at g0 g1
              have c0 : wr.cell? ⟨ge, q * 2, none⟩ = some (.int .i64 (x : Int)) := own_cell hrow g0
              have c1 : wr.cell? ⟨ge, q * 2 + 1, none⟩ = some (.int .i64 (y : Int)) := own_cell hrow g1
              have x2 : (x : Int) < (N : Int) := by omega
              have x3 : (0 : Int) ≤ (x : Int) := by omega
              have x4 : (y : Int) < (N : Int) := by omega
              have x5 : (0 : Int) ≤ (y : Int) := by omega
              obtain ⟨b7, hb7⟩ : ∃ b7, wr.heap.size = b7 := ⟨_, rfl⟩
              have S1 := S.blkAt #[.int .i64 (x : Int), .int .i64 (y : Int)] 65 hb7
              have HXY := Hid.mk' hxy
              have HCI := Hid.mk' hCI
              clear S S' hrow g0 g1 hxy hCI
              go_upto_region 21 with fail
              generalize (wr.alloc (.cells #[.int .i64 (x : Int), .int .i64 (y : Int)] 65)) = w5 at *
              clear c0 c1
              have hbd : w5.heap[b7]? = _ := S1.head
              have p0 : w5.cell? ⟨b7, 0, none⟩ = some (.int .i64 (x : Int)) := cell_of_row _ b7 0 _ 65 (0, 0) hbd
              have p1 : w5.cell? ⟨b7, 1, none⟩ = some (.int .i64 (y : Int)) := cell_of_row _ b7 1 _ 65 (0, 0) hbd
              go_quiet (fail)
              have S2 := S1.tail.quiet ((Keeps.refl (fun _ => False) w5).drewN nq)
              clear S1 hbd p0 p1
              generalize w5.drewN nq = w6 at *
              have S' := S2
              unfold GrL at S'
              have hrc : w6.ownsRow 0 3 1 (.slice (some ⟨gc, 0, none⟩) N N) N (nats cm) := S'.p9.head
              have d0 : w6.cell? ⟨gc, x, none⟩ = some (.int .i64 ((cm.getD x 0 : Nat) : Int)) := by rw [hrc.cellAt x (by omega)]; exact nats_get cm x (by omega)
              have d1 : w6.cell? ⟨gc, y, none⟩ = some (.int .i64 ((cm.getD y 0 : Nat) : Int)) := by rw [hrc.cellAt y (by omega)]; exact nats_get cm y (by omega)
              obtain ⟨cx, hcx⟩ : ∃ cx, cm.getD x 0 = cx := ⟨_, rfl⟩
              obtain ⟨cy, hcy⟩ : ∃ cy, cm.getD y 0 = cy := ⟨_, rfl⟩
              rw [hcx] at d0
              rw [hcy] at d1
              have HCX := Hid.mk' hcx
              have HCY := Hid.mk' hcy
              clear S' hrc hcx hcy
              go_upto_region 22 with fail
              by_cases hc : cx = cy
              · have hc' : ((cx : Int) != (cy : Int)) = false := by simp [hc]
                have hcm : fn cm x = fn cm y := by show cm.getD x 0 = cm.getD y 0; rw [HCX.out, HCY.out, hc]
                have HCM := Hid.mk' hcm
                go_quiet (fail)
                have S3 := S2.quiet ((Keeps.refl (fun _ => False) w6).drewN nq)
                clear S2 d0 d1 hc hcm
                generalize w6.drewN nq = w7 at *
                go_wp2_with fail
                refine (reach_any S3 y x hyN hxN (by omega) (by omega) hfl htl hfs hts (HCI.out.bo (by omega) (by omega) HLT.out) (HCI.out.bi (by omega) (by omega) HLT.out) HCI.out.rev).mono ?_
                rintro e8 w8 ⟨r, s', fs', ts', vF', vT', FS', TT', rfl, S4, hs', hfl', htl', hfs', hts', hr⟩
                clear S3 hfs hts hfl htl
                have HFS := Hid.mk' hfs'
                have HTS := Hid.mk' hts'
                clear hfs' hts'
                cases r with
                | true =>
                  have hw := hr.1 rfl
                  have hC1 := HCI.out.pos HXY.out HCM.out hw
                  have hcc := (cK_pos HXY.out HCM.out (HCI.out.o.way.1 hw)).2
                  have HC1 := Hid.mk' hC1
                  have hCl := cC_len (fn cm) E q
                  unfold GrL at S4
                  have S5 := S4.p8.quiet ((Keeps.refl (fun _ => False) w8).alloc (.cells #[.int .i64 (q : Int)] 3))
                  obtain ⟨C, hCe⟩ : ∃ C, cC (fn cm) E q = C := ⟨_, rfl⟩
                  rw [hCe] at hcc hCl S5
                  have HCC := Hid.mk' hcc
                  have hO : World.ownsRow _ 0 3 1 u12 C.length (nats C) := S5.head
                  clear hw hC1 hcc hr hCe S4
                  go_wp2_with (at_builtin; refine wpList_app _ rfl (.tmp 95) (.tmp 97) 28 rfl 3 i3 (.int .i64 0) 1 8 Yba.underlying28 hi3 hz3 hs3 hb3 rfl (by omega) u12 C.length (nats C) rfl hO 1 [.int .i64 (q : Int)] (Src.one_new w8 _ _ rfl) (by unfold maxLen; omega) (by omega) ?_; intro x7 w7' hA7 hn7)
                  have S6 := (S5.app hA7).q8
                  go_roundw
                  case rel =>
                    refine ⟨q + 1, s', vso, vsi, Ao, Ai, fs', ts', vF', vT', FS', TT', by omega, by go_num, by omega, hfl', htl', HFS.out, HTS.out, HC1.out, ?_⟩
                    rw [HCC.out, nats_append, show (C ++ [q]).length = C.length + 1 by simp]; exact S6
                  case measure => simp [intOf]; omega
                | false =>
                  have hw : ¬ Way (Nb Ao) y x := fun h => by have := hr.2 h; cases this
                  have hC1 := HCI.out.neg HXY.out HCM.out hw hxN hyN
                  have hcc := (cK_neg HXY.out HCM.out (fun h => hw (HCI.out.o.way.2 h))).2
                  have HC1 := Hid.mk' hC1
                  have HCC := Hid.mk' hcc
                  have hb1 := (HCI.out.bo (by omega) (by omega) HLT.out x).1
                  have hb2 := (HCI.out.bi (by omega) (by omega) HLT.out y).1
                  unfold GrL at S4
                  clear hw hC1 hcc hr
                  go_wp2_with fail
                  refine (gadd_any S4 x y hxN hyN hb1 hb2).mono ?_
                  rintro e9 w9 ⟨rfl, vso', vsi', S5⟩
                  clear S4 hb1 hb2
                  go_wp2
                  go_roundw
                  case rel =>
                    refine ⟨q + 1, s', vso', vsi', _, _, fs', ts', vF', vT', FS', TT', by omega, by go_num, by omega, hfl', htl', HFS.out, HTS.out, HC1.out, ?_⟩
                    rw [HCC.out]; exact S5
                  case measure => simp [intOf]; omega
              · have hc' : ((cx : Int) != (cy : Int)) = true := by simp; omega
                have hcm : fn cm x ≠ fn cm y := by show cm.getD x 0 ≠ cm.getD y 0; rw [HCX.out, HCY.out]; exact hc
                have hC1 := HCI.out.off HXY.out hcm
                have hcc := (cK_off HXY.out hcm).2
                have HC1 := Hid.mk' hC1
                have HCC := Hid.mk' hcc
                have HFS := Hid.mk' hfs
                have HTS := Hid.mk' hts
                clear hC1 hcc hfs hts hcm
                go_quiet (fail)
                have S3 := S2.quiet ((Keeps.refl (fun _ => False) w6).drewN nq)
                clear S2 d0 d1
                generalize w6.drewN nq = w7 at *
                go_wp2
                go_roundw
                case rel =>
                  refine ⟨q + 1, s, vso, vsi, Ao, Ai, fs, ts, vF, vT, FS, TT, by omega, by go_num, by omega, hfl, htl, HFS.out, HTS.out, HC1.out, ?_⟩
                  rw [HCC.out]; exact S3
                case measure => simp [intOf]; omega
            · obtain rfl : q = k := by omega
              have S3 : Sep w0 wr (Res.row 3 1 u12 (mC E q).length (nats (mC E q)) :: Res.row 53 3 (.slice (some ⟨gr, 0, none⟩) q q) q (rls R) :: rs) := by
                unfold GrL at S
                have h1 := S.tail.tail.tail.tail.tail.tail.tail
                rw [HFIN.out] at h1
                exact h1.p3.tail.p2.tail.p2.p2
              have HS3 := Hid.mk' S3
              clear S hfs hts hCI
              go_wp2
              go_ret
              exact ⟨_, rfl, HS3.out⟩

end Go.Proofs.Ybulkcdco
