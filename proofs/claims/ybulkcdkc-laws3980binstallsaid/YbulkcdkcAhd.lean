import Derived.Test.YbulkcdkcFlw
namespace Go.Proofs.Ybulkcdkc
open Go.RowKit

/-- A decision carried. -/
structure Dec where
  num : Nat
  k : Nat
  fr : ByteArray
  sq : Nat
def Dec.cells (d : Dec) : List Value := [.int .u64 d.num, .int .u8 d.k, .string d.fr, .int .u64 d.sq, .int .u64 0, .int .i64 0, .pointer none, .bool false]
def dd : Dec := ⟨0, 0, ⟨#[]⟩, 0⟩
def ccells (ds : List Dec) : List Value := (ds.map Dec.cells).flatten
theorem ccells_cons (d : Dec) (ds : List Dec) : ccells (d :: ds) = d.cells ++ ccells ds := by unfold ccells; simp
theorem ccells_append (ds es : List Dec) : ccells (ds ++ es) = ccells ds ++ ccells es := by unfold ccells; simp
theorem ccells_len : ∀ ds, (ccells ds).length = ds.length * 8
  | [] => rfl
  | d :: ds => by rw [ccells_cons, List.length_append, ccells_len ds, List.length_cons]; simp [Dec.cells]; omega
theorem ccells_get : ∀ (ds : List Dec) (i j : Nat), i < ds.length → j < 8 → (ccells ds)[i * 8 + j]? = (ds.getD i dd).cells[j]?
  | [], i, j, h, _ => by simp at h
  | d :: ds, 0, j, _, hj => by rw [ccells_cons, List.getElem?_append_left (by simp [Dec.cells]; omega)]; simp
  | d :: ds, i + 1, j, h, hj => by
    rw [ccells_cons, List.getElem?_append_right (by simp [Dec.cells]; omega)]
    have := ccells_get ds i j (by simpa using h) hj
    rw [show (i + 1) * 8 + j - d.cells.length = i * 8 + j by simp [Dec.cells]; omega, this]
    simp
/-- Where the decisions above p take a course. -/
def run (p : Nat) (c : List ByteArray × List (List ByteArray)) : List Dec → List ByteArray × List (List ByteArray)
  | [] => c
  | d :: ds => run p (if p < d.num then (afterL d.k d.fr c.1, leftL d.k c.1 c.2) else c) ds
theorem run_snoc (p : Nat) (d : Dec) : ∀ (ds : List Dec) (c : List ByteArray × List (List ByteArray)), run p c (ds ++ [d]) = if p < d.num then (afterL d.k d.fr (run p c ds).1, leftL d.k (run p c ds).1 (run p c ds).2) else run p c ds
  | [], c => by simp [run]
  | e :: ds, c => by simp only [List.cons_append, run]; exact run_snoc p d ds _
theorem afterL_len (k : Nat) (fr : ByteArray) (ss : List ByteArray) : (afterL k fr ss).length ≤ ss.length + 1 := by
  unfold afterL
  split
  · simp
  · split
    · exact Nat.le_trans (List.length_filter_le _ _) (by omega)
    · omega
theorem leftL_len (k : Nat) (ss : List ByteArray) (L : List (List ByteArray)) : (leftL k ss L).length ≤ L.length + 1 := by
  unfold leftL
  split
  · simp
  · split
    · simp
    · omega
theorem run_len (p : Nat) : ∀ (ds : List Dec) (c : List ByteArray × List (List ByteArray)), (run p c ds).1.length ≤ c.1.length + ds.length ∧ (run p c ds).2.length ≤ c.2.length + ds.length
  | [], c => by simp [run]
  | d :: ds, c => by
    have ih := run_len p ds (if p < d.num then (afterL d.k d.fr c.1, leftL d.k c.1 c.2) else c)
    simp only [run, List.length_cons]
    have h1 := afterL_len d.k d.fr c.1
    have h2 := leftL_len d.k c.1 c.2
    split at ih
    · rw [if_pos (by assumption)]; simp only at ih; omega
    · rw [if_neg (by assumption)]; omega

/-- What the coordinator and its member hold, as far as the road goes. -/
structure Co (w : World) (bco bm : Nat) (vcar : Value) (ds : List Dec) (id : Int) (vm vl : Value) (mp : Nat) : Prop where
  m : w.cell? ⟨bco, 0, none⟩ = some (.pointer (some ⟨bm, 0, none⟩))
  car : w.cell? ⟨bco, 12, none⟩ = some vcar
  row : w.ownsRow 0 69 8 vcar ds.length (ccells ds)
  vid : w.cell? ⟨bm, 7, none⟩ = some (.int .u64 id)
  mem : w.cell? ⟨bm, 8, none⟩ = some vm
  left : w.cell? ⟨bm, 9, none⟩ = some vl
  proc : w.cell? ⟨bm, 23, none⟩ = some (.int .u64 mp)
theorem Co.keep {w w' : World} {bco bm : Nat} {vcar : Value} {ds : List Dec} {id : Int} {vm vl : Value} {mp : Nat} (h : Co w bco bm vcar ds id vm vl mp) (k : Keeps (fun _ => False) w w') : Co w' bco bm vcar ds id vm vl mp :=
  ⟨k.st h.m, k.st h.car, k.own h.row (fun _ _ h => h), k.st h.vid, k.st h.mem, k.st h.left, k.st h.proc⟩

theorem own_atS {w : World} {e : TypeId} {z : Nat} {v : Value} {n : Nat} {xs : List Value} (h : w.ownsRow 0 e z v n xs) (hn : 0 < n) : ∃ g c, v = .slice (some ⟨g, 0, none⟩) n c ∧ n ≤ c ∧ c ≤ 9223372036854775807 ∧ True := by
  rcases h.2 with ⟨_, h0⟩ | ⟨g, cap, cur, rfl, hb, hg, hnc, hcm, hcs, htake⟩
  · omega
  · exact ⟨g, cap, rfl, hnc, by unfold maxLen at hcm; omega, trivial⟩

set_option maxHeartbeats 1600000 in
set_option maxRecDepth 100000 in
theorem ahead_any {w : World} {bco bm : Nat} {vcar : Value} {ds : List Dec} {id : Int} {vm vl : Value} {mp : Nat} {ss : List ByteArray} {ps : List (Int × Value)} {L : List (List ByteArray)} (hC : Co w bco bm vcar ds id vm vl mp) (hR : Rd w vm ss) (hV : VRow w vl ps L) (hds : ds.length ≤ 400) (hss : ss.length ≤ 400) (hL : L.length ≤ 400) :
    Calls Yba.prog 13 #[.pointer (some ⟨bco, 0, none⟩)] w fun r w' => ∃ (id' : Int) (vm' vl' : Value) (ps' : List (Int × Value)), r = .returned (.agg #[.int .u64 id', vm', vl']) ∧ Keeps (fun _ => False) w w' ∧ Rd w' vm' (run mp (ss, L) ds).1 ∧ VRow w' vl' ps' (run mp (ss, L) ds).2 := by
  obtain ⟨n, hn⟩ : ∃ n, ds.length = n := ⟨_, rfl⟩
  obtain ⟨va, vc, hvc⟩ := own_sliceB hC.row
  rw [hn] at hvc
  subst hvc
  obtain ⟨b, hb⟩ : ∃ b, w.heap.size = b := ⟨_, rfl⟩
  have HC := Hid.mk' hC
  have HR := Hid.mk' hR
  have HV := Hid.mk' hV
  have HN := Hid.mk' hn
  obtain ⟨ma, mc, hvm⟩ := own_sliceB hR
  obtain ⟨la, lc, hvl⟩ := own_sliceB hV.row
  obtain ⟨mn, hmn⟩ : ∃ mn, ss.length = mn := ⟨_, rfl⟩
  obtain ⟨ln, hln⟩ : ∃ ln, ps.length = ln := ⟨_, rfl⟩
  rw [hmn] at hvm
  rw [hln] at hvl
  subst hvm
  subst hvl
  rw [hn] at hds
  clear hC hR hV hn hmn hln
  have k1 := (Keeps.refl (fun _ => False) w).alloc (.cells #[.int .u64 0, .slice none 0 0, .slice none 0 0] 34)
  have hb1 : (w.alloc (.cells #[.int .u64 0, .slice none 0 0, .slice none 0 0] 34)).heap[b]? = some (.cells #[.int .u64 0, .slice none 0 0, .slice none 0 0] 34 (0, 0)) := by subst hb; exact heap_alloc_new w _
  have hz1 : (w.alloc (.cells #[.int .u64 0, .slice none 0 0, .slice none 0 0] 34)).heap.size = b + 1 := by simp [hb]
  go_enter Yba.func13, Yba.ntmps13
  go_upto_region 1 with fail
  generalize (w.alloc (.cells #[.int .u64 0, .slice none 0 0, .slice none 0 0] 34)) = w1 at *
  have hC1 := HC.out.keep k1
  have m0 := hC1.m
  have m1 := hC1.car
  have m2 := hC1.vid
  have m3 := hC1.mem
  have m4 := hC1.left
  obtain ⟨ba, hba⟩ : ∃ ba, w1.heap.size = ba := ⟨_, rfl⟩
  have k2 := k1.alloc (.cells #[.int .u64 id, .slice ma mn mc, .slice la ln lc] 34)
  have hb2 : (w1.alloc (.cells #[.int .u64 id, .slice ma mn mc, .slice la ln lc] 34)).heap[b]? = some (.cells #[.int .u64 0, .slice none 0 0, .slice none 0 0] 34 (0, 0)) := (((Keeps.refl (fun _ => False) w1).alloc (.cells #[.int .u64 id, .slice ma mn mc, .slice la ln lc] 34)).block b (by omega) (fun h => h)).trans hb1
  have hb3 : (w1.alloc (.cells #[.int .u64 id, .slice ma mn mc, .slice la ln lc] 34)).heap[ba]? = some (.cells #[.int .u64 id, .slice ma mn mc, .slice la ln lc] 34 (0, 0)) := by subst hba; exact heap_alloc_new w1 _
  have hco := (HC.out.keep k2).car
  have hbne : b ≠ ba := by omega
  have hbw : w.heap.size ≤ b ∧ w.heap.size ≤ ba := by omega
  clear hC1 hb1 hb hz1
  go_wp2
  generalize (w1.alloc (.cells #[.int .u64 id, .slice ma mn mc, .slice la ln lc] 34)) = w2 at *
  clear m0 m1 m2 m3 m4 hco hba k1
  go_loopw [5, 18] (fun _ vi wx => ∃ (i : Nat) (id' : Int) (vm' vl' : Value) (ps' : List (Int × Value)), i ≤ n ∧ vi = .int .i64 i ∧ Keeps (fun _ => False) w wx ∧ wx.heap[b]? = some (.cells #[.int .u64 0, .slice none 0 0, .slice none 0 0] 34 (0, 0)) ∧ wx.heap[ba]? = some (.cells #[.int .u64 id', vm', vl'] 34 (0, 0)) ∧ Rd wx vm' (run mp (ss, L) (ds.take i)).1 ∧ VRow wx vl' ps' (run mp (ss, L) (ds.take i)).2) (fun _ vi _ => n - (intOf vi).toNat)
  case atStart => exact ⟨0, id, _, _, ps, by omega, rfl, k2, hb2, hb3, by simpa [run] using HR.out.keep k2, by simpa [run] using HV.out.keep k2⟩
  case round =>
    clear k2 hb2 hb3
    obtain ⟨i, id', vm', vl', ps', hi, rfl, hk, h2, h3, hr, hv⟩ := hrel
    by_cases hlt : i < n
    · have y0 : (i : Int) < (n : Int) := by omega
      have y1 : (0 : Int) ≤ (i : Int) := by omega
      obtain ⟨d, hd⟩ : ∃ d, ds.getD i dd = d := ⟨_, rfl⟩
      have hds1 : ds.take (i + 1) = ds.take i ++ [d] := by
        rw [List.take_add_one, List.getElem?_eq_getElem (by have := HN.out; omega)]
        have : ds[i]'(by have := HN.out; omega) = d := by rw [← hd]; simp [show i < ds.length by have := HN.out; omega]
        rw [this]; rfl
      have hrun := run_snoc mp d (ds.take i) (ss, L)
      rw [← hds1] at hrun
      have hlen := run_len mp (ds.take i) (ss, L)
      simp only [List.length_take] at hlen
      have hCr := HC.out.keep hk
      obtain ⟨g, cap, hg, hnc, hcm, -⟩ := own_atS hCr.row (by have := HN.out; omega)
      rw [HN.out] at hg
      injection hg with e1 _ e3
      subst e1
      subst e3
      have hrow : wr.ownsRow 0 69 8 (.slice (some ⟨g, 0, none⟩) n vc) n (ccells ds) := by have := hCr.row; rwa [HN.out] at this
      have cg : ∀ j, j < 8 → wr.cell? ⟨g, i * 8 + j, none⟩ = d.cells[j]? := fun j hj => by
        have h1 := ccells_get ds i j (by have := HN.out; omega) hj
        rw [hd] at h1
        obtain ⟨u, hu⟩ : ∃ u, d.cells[j]? = some u := ⟨d.cells[j]'(by simp [Dec.cells]; omega), by simp⟩
        rw [hu] at h1 ⊢
        exact own_cell hrow h1
      have c0 : wr.cell? ⟨g, i * 8, none⟩ = some (.int .u64 d.num) := cg 0 (by omega)
      have c1 : wr.cell? ⟨g, i * 8 + 1, none⟩ = some (.int .u8 d.k) := cg 1 (by omega)
      have c2 : wr.cell? ⟨g, i * 8 + 2, none⟩ = some (.string d.fr) := cg 2 (by omega)
      have c3 : wr.cell? ⟨g, i * 8 + 3, none⟩ = some (.int .u64 d.sq) := cg 3 (by omega)
      have c4 : wr.cell? ⟨g, i * 8 + 4, none⟩ = some (.int .u64 0) := cg 4 (by omega)
      have c5 : wr.cell? ⟨g, i * 8 + 5, none⟩ = some (.int .i64 0) := cg 5 (by omega)
      have c6 : wr.cell? ⟨g, i * 8 + 6, none⟩ = some (.pointer none) := cg 6 (by omega)
      have c7 : wr.cell? ⟨g, i * 8 + 7, none⟩ = some (.bool false) := cg 7 (by omega)
      clear hCr hrow cg hds1 hd hnc hcm
      obtain ⟨b5, hb5⟩ : ∃ b5, wr.heap.size = b5 := ⟨_, rfl⟩
      have k3 := (Keeps.refl (fun _ => False) wr).alloc (.cells #[.int .u64 d.num, .int .u8 d.k, .string d.fr, .int .u64 d.sq, .int .u64 0, .int .i64 0, .pointer none, .bool false] 69)
      have h5 : (wr.alloc (.cells #[.int .u64 d.num, .int .u8 d.k, .string d.fr, .int .u64 d.sq, .int .u64 0, .int .i64 0, .pointer none, .bool false] 69)).heap[b5]? = some (.cells #[.int .u64 d.num, .int .u8 d.k, .string d.fr, .int .u64 d.sq, .int .u64 0, .int .i64 0, .pointer none, .bool false] 69 (0, 0)) := by subst hb5; exact heap_alloc_new wr _
      go_upto_region 5 with fail
      clear c0 c1 c2 c3 c4 c5 c6 c7 hb5
      generalize (wr.alloc (.cells #[.int .u64 d.num, .int .u8 d.k, .string d.fr, .int .u64 d.sq, .int .u64 0, .int .i64 0, .pointer none, .bool false] 69)) = w3 at *
      have hk3 := hk.trans k3 (fun _ _ h => h)
      have hC3 := HC.out.keep hk3
      have m0 := hC3.m
      have m5 := hC3.proc
      have c0 : w3.cell? ⟨b5, 0, none⟩ = some (.int .u64 d.num) := cell_of_row w3 b5 0 _ 69 (0, 0) h5
      have HRUN := Hid.mk' hrun
      by_cases hp : mp < d.num
      · have hp' : decide ((mp : Int) < (d.num : Int)) = true := by simp; omega
        go_quiet (fail)
        have k4 := k3.drewN nq
        have hk4 := hk3.drewN nq
        have h5' : (w3.drewN nq).heap[b5]? = _ := h5
        clear hC3 m0 m5 c0 h5 k3 hk3
        generalize w3.drewN nq = w4 at *
        have h24 := (k4.block b (Array.getElem?_eq_some_iff.1 h2).1 (fun h => h)).trans h2
        have h34 := (k4.block ba (Array.getElem?_eq_some_iff.1 h3).1 (fun h => h)).trans h3
        have f0 : w4.cell? ⟨b5, 0, none⟩ = some (.int .u64 d.num) := cell_of_row w4 b5 0 _ 69 (0, 0) h5'
        have f1 : w4.cell? ⟨b5, 1, none⟩ = some (.int .u8 d.k) := cell_of_row w4 b5 1 _ 69 (0, 0) h5'
        have f2 : w4.cell? ⟨b5, 2, none⟩ = some (.string d.fr) := cell_of_row w4 b5 2 _ 69 (0, 0) h5'
        have f3 : w4.cell? ⟨b5, 3, none⟩ = some (.int .u64 d.sq) := cell_of_row w4 b5 3 _ 69 (0, 0) h5'
        have f4 : w4.cell? ⟨b5, 4, none⟩ = some (.int .u64 0) := cell_of_row w4 b5 4 _ 69 (0, 0) h5'
        have hfo := follow_any id' d.num d.sq 0 d.k d.fr h34 (hr.keep k4) (hv.keep k4) (by omega) (by omega)
        rw [if_pos hp] at hrun
        clear h5' hr hv h2 h3 k4 hk HRUN hlen
        have HRUN := Hid.mk' hrun
        clear hrun
        go_wp2_with fail
        refine hfo.mono ?_
        rintro r w5 ⟨rfl, id2, vm2, vl2, ps2, k5, h35, r5, v5⟩
        have hk5 := hk4.trans k5 (fun j hj e => by subst e; exact absurd hj (by omega))
        have h25 := (k5.block b (Array.getElem?_eq_some_iff.1 h24).1 hbne).trans h24
        have HF := Hid.mk' (And.intro hk5 (And.intro h25 (And.intro h35 (And.intro r5 v5))))
        clear hfo k5 h35 r5 v5 hk5 h25 h24 h34 hk4 f0 f1 f2 f3 f4
        go_wp2
        go_roundw
        case rel => exact ⟨i + 1, id2, vm2, vl2, ps2, by omega, by go_num, HF.out.1, HF.out.2.1, HF.out.2.2.1, by rw [HRUN.out]; exact HF.out.2.2.2.1, by rw [HRUN.out]; exact HF.out.2.2.2.2⟩
        case measure => simp [intOf]; omega
      · have hp' : decide ((mp : Int) < (d.num : Int)) = false := by simp; omega
        go_quiet (fail)
        have k4 := k3.drewN nq
        have hk4 := hk3.drewN nq
        clear hC3 m0 m5 c0 h5 k3 hk3
        generalize w3.drewN nq = w4 at *
        have h24 := (k4.block b (Array.getElem?_eq_some_iff.1 h2).1 (fun h => h)).trans h2
        have h34 := (k4.block ba (Array.getElem?_eq_some_iff.1 h3).1 (fun h => h)).trans h3
        rw [if_neg hp] at hrun
        have HF := Hid.mk' (And.intro hk4 (And.intro h24 (And.intro h34 (And.intro (hr.keep k4) (hv.keep k4)))))
        clear HRUN hlen hk4 h24 h34 hr hv k4 h2 h3 hk
        have HRUN := Hid.mk' hrun
        clear hrun
        go_wp2
        go_roundw
        case rel => exact ⟨i + 1, id', vm', vl', ps', by omega, by go_num, HF.out.1, HF.out.2.1, HF.out.2.2.1, by rw [HRUN.out]; exact HF.out.2.2.2.1, by rw [HRUN.out]; exact HF.out.2.2.2.2⟩
        case measure => simp [intOf]; omega
    · obtain rfl : i = n := by omega
      rw [List.take_of_length_le (by have := HN.out; omega)] at hr hv
      obtain ⟨xa, xc, hx⟩ := own_sliceB hr
      obtain ⟨ya, yc, hy⟩ := own_sliceB hv.row
      obtain ⟨xn, hxn⟩ : ∃ xn, (run mp (ss, L) ds).1.length = xn := ⟨_, rfl⟩
      obtain ⟨yn, hyn⟩ : ∃ yn, ps'.length = yn := ⟨_, rfl⟩
      rw [hxn] at hx
      rw [hyn] at hy
      subst hx
      subst hy
      have c0 : wr.cell? ⟨ba, 0, none⟩ = some (.int .u64 id') := cell_of_row wr ba 0 _ 34 (0, 0) h3
      have c1 : wr.cell? ⟨ba, 1, none⟩ = some (.slice xa xn xc) := cell_of_row wr ba 1 _ 34 (0, 0) h3
      have c2 : wr.cell? ⟨ba, 2, none⟩ = some (.slice ya yn yc) := cell_of_row wr ba 2 _ 34 (0, 0) h3
      have d0 : wr.cell? ⟨b, 0, none⟩ = some (.int .u64 0) := cell_of_row wr b 0 _ 34 (0, 0) h2
      have d1 : wr.cell? ⟨b, 1, none⟩ = some (.slice none 0 0) := cell_of_row wr b 1 _ 34 (0, 0) h2
      have d2 : wr.cell? ⟨b, 2, none⟩ = some (.slice none 0 0) := cell_of_row wr b 2 _ 34 (0, 0) h2
      have e0 : wr.frozen? ⟨b, 0, none⟩ = false := frozen_of_row wr b 0 _ 34 h2
      have e1 : wr.frozen? ⟨b, 1, none⟩ = false := frozen_of_row wr b 1 _ 34 h2
      have e2 : wr.frozen? ⟨b, 2, none⟩ = false := frozen_of_row wr b 2 _ 34 h2
      have k6 := (((Keeps.refl (fun x => x = b) wr).setCell (p := ⟨b, 0, none⟩) (fun _ => rfl) (.int .u64 id')).setCell (p := ⟨b, 1, none⟩) (fun _ => rfl) (.slice xa xn xc)).setCell (p := ⟨b, 2, none⟩) (fun _ => rfl) (.slice ya yn yc)
      have h6 := heap_setCell_same _ b 2 _ 34 (.slice ya yn yc) (heap_setCell_same _ b 1 _ 34 (.slice xa xn xc) (heap_setCell_same wr b 0 _ 34 (.int .u64 id') h2))
      have hk6 := hk.trans k6 (fun j hj e => by subst e; exact absurd hj (by omega))
      have hr6 := own_off hr h2 (by decide) k6
      have hv6 := hv.off h2 k6
      have q0 : (((wr.setCell ⟨b, 0, none⟩ (.int .u64 id')).setCell ⟨b, 1, none⟩ (.slice xa xn xc)).setCell ⟨b, 2, none⟩ (.slice ya yn yc)).cell? ⟨b, 0, none⟩ = some (.int .u64 id') := cell_of_row _ b 0 _ 34 (0, 0) h6
      have q1 : (((wr.setCell ⟨b, 0, none⟩ (.int .u64 id')).setCell ⟨b, 1, none⟩ (.slice xa xn xc)).setCell ⟨b, 2, none⟩ (.slice ya yn yc)).cell? ⟨b, 1, none⟩ = some (.slice xa xn xc) := cell_of_row _ b 1 _ 34 (0, 0) h6
      have q2 : (((wr.setCell ⟨b, 0, none⟩ (.int .u64 id')).setCell ⟨b, 1, none⟩ (.slice xa xn xc)).setCell ⟨b, 2, none⟩ (.slice ya yn yc)).cell? ⟨b, 2, none⟩ = some (.slice ya yn yc) := cell_of_row _ b 2 _ 34 (0, 0) h6
      have HF := Hid.mk' (And.intro hk6 (And.intro hr6 hv6))
      clear k6 h6 hk6 hr6 hv6 hr hv hk h2 h3 hxn hyn
      go_wp2
      refine bodyPost_ret (v := .agg #[.int .u64 id', .slice xa xn xc, .slice ya yn yc]) (by simp [results, Yba.results13, go_sem, q0, q1, q2]) rfl ?_
      exact ⟨_, _, _, _, rfl, HF.out.1, HF.out.2.1, HF.out.2.2⟩
end Go.Proofs.Ybulkcdkc
