import Derived.Test.YbulkcdkcHld
namespace Go.Proofs.Ybulkcdkc
open Go.RowKit

/-- The members of a view that are kept. -/
def kf (view : List ByteArray) (h : ByteArray → Bool) (ss : List ByteArray) : List ByteArray := ss.filter (fun x => !(!h x || !has view x))
def kall (view : List ByteArray) (h : ByteArray → Bool) (L : List (List ByteArray)) : Bool := L.all (fun ss => quo ss (kf view h ss))
section
variable {w : World} {bh bcs b1 b2 bco bm B : Nat} {me : ByteArray} {kv : List (ByteArray × Nat)} {num : Nat} {vm : Value} {view : List ByteArray}

set_option maxRecDepth 100000 in
theorem kp1_any (hH : Hc w b1 b2 bco bm B me kv num) (hf : w.cell? ⟨bh, 0, none⟩ = some (.func (.func 25) #[] #[.pointer (some ⟨b1, 0, none⟩), .pointer (some ⟨b2, 0, none⟩)])) (hc : w.cell? ⟨bcs, 1, none⟩ = some vm) (hR : Rd w vm view) (hl : view.length ≤ 100000) (x : ByteArray) (hx : x.size ≤ maxLen) :
    Calls Yba.prog 19 #[.string x, .pointer (some ⟨bh, 0, none⟩), .pointer (some ⟨bcs, 0, none⟩)] w fun r w' => r = .returned (.bool (!hol me kv num x || !has view x)) ∧ Keeps (fun _ => False) w w' := by
  have h1 := holds1_any hH x hx
  obtain ⟨t, ht⟩ : ∃ t, hol me kv num x = t := ⟨_, rfl⟩
  rw [ht] at h1 ⊢
  clear ht hH
  go_enter Yba.func19, Yba.ntmps19
  go_wp2_with fail
  refine h1.mono ?_
  rintro r w1 ⟨rfl, k1⟩
  have hc1 := k1.st hc
  have h2 := contains_any (hR.keep k1) x hl
  clear h1 hf hc hR
  cases t with
  | false =>
    go_wp2
    go_ret
    exact ⟨by simp, k1⟩
  | true =>
    go_wp2_with fail
    refine h2.mono ?_
    rintro r w2 ⟨rfl, k2⟩
    have k3 := k1.trans k2 (fun _ _ h => h)
    go_wp2
    go_ret
    exact ⟨by simp, k3⟩
end

set_option maxHeartbeats 1600000 in
set_option maxRecDepth 100000 in
theorem kept_any {w : World} {b1 b2 bco bm B : Nat} {me : ByteArray} {kv : List (ByteArray × Nat)} {num : Nat} {id : Int} {vm vl : Value} {view : List ByteArray} {ps : List (Int × Value)} {L : List (List ByteArray)} (hH : Hc w b1 b2 bco bm B me kv num) (hR : Rd w vm view) (hV : VRow w vl ps L) (hl : view.length ≤ 1000) (hL : L.length ≤ 1000) (h0 : 0 < L.length) (hb : ∀ l ∈ L, l.length ≤ 1000 ∧ ∀ x ∈ l, x.size ≤ maxLen)
    (hne : ∀ i, i < L.length → (∀ j, j < i → quo (L.getD j []) (kf view (hol me kv num) (L.getD j [])) = true) → 0 < (L.getD i []).length) :
    Calls Yba.prog 14 #[.agg #[.int .u64 id, vm, vl], .func (.func 25) #[] #[.pointer (some ⟨b1, 0, none⟩), .pointer (some ⟨b2, 0, none⟩)]] w fun r w' => r = .returned (.bool (kall view (hol me kv num) L)) ∧ Keeps (fun _ => False) w w' := by
  have hmf : ∀ (fn : Fn) (first cap : Array Value) (w : World), (Instr.makeFunc fn first cap).run Yba.prog w = .ok (.func fn first cap) w := fun _ _ _ _ => rfl
  obtain ⟨n, hn⟩ : ∃ n, L.length = n := ⟨_, rfl⟩
  have hpn : ps.length = n := by rw [hV.len, hn]
  obtain ⟨g, vc, hvl, -, -, -⟩ := own_atS hV.row (by omega)
  rw [hpn] at hvl
  subst hvl
  have hvn : w.ownsRow 0 31 2 (.slice (some ⟨g, 0, none⟩) n vc) n (vcells ps) := by have := hV.row; rwa [hpn] at this
  obtain ⟨ma, mc, hvm⟩ := own_sliceB hR
  obtain ⟨mn, hmn⟩ : ∃ mn, view.length = mn := ⟨_, rfl⟩
  rw [hmn] at hvm
  subst hvm
  have HH := Hid.mk' hH
  have HR := Hid.mk' hR
  have HV := Hid.mk' hV
  have HVN := Hid.mk' hvn
  have HN := Hid.mk' hn
  have HPN := Hid.mk' hpn
  have HB := Hid.mk' hb
  have HNE := Hid.mk' hne
  have HMN := Hid.mk' hmn
  obtain ⟨bc, hbc⟩ : ∃ bc, w.heap.size = bc := ⟨_, rfl⟩
  have S0 : Sep w w [] := Sep.nil (Keeps.refl _ w)
  have S1 := S0.blkAt #[.int .u64 id, .slice ma mn mc, .slice (some ⟨g, 0, none⟩) n vc] 34 hbc
  have S2 := S1.blkAt #[.func (.func 25) #[] #[.pointer (some ⟨b1, 0, none⟩), .pointer (some ⟨b2, 0, none⟩)]] 72 (show _ = bc + 1 by simp [hbc])
  rw [hn] at h0 hL
  have x0 : ((n : Int) == 0) = false := by simp; omega
  have c2 : _ := cell_of_row _ bc 2 _ 34 (0, 0) S2.tail.head
  clear hH hR hV hvn hn hpn hb hne hmn S0 S1
  go_enter Yba.func14, Yba.ntmps14
  go_wp2
  clear hbc c2
  generalize bc + 1 = bf at *
  generalize ((w.alloc (.cells #[.int .u64 id, .slice ma mn mc, .slice (some ⟨g, 0, none⟩) n vc] 34)).alloc (.cells #[.func (.func 25) #[] #[.pointer (some ⟨b1, 0, none⟩), .pointer (some ⟨b2, 0, none⟩)]] 72)) = w2 at *
  go_loopw [7, 8, 19] (fun _ _ vi wx => ∃ i : Nat, i ≤ n ∧ vi = .int .i64 i ∧ Sep w wx [Res.blk bf #[.func (.func 25) #[] #[.pointer (some ⟨b1, 0, none⟩), .pointer (some ⟨b2, 0, none⟩)]] 72, Res.blk bc #[.int .u64 id, .slice ma mn mc, .slice (some ⟨g, 0, none⟩) n vc] 34] ∧ ∀ j, j < i → quo (L.getD j []) (kf view (hol me kv num) (L.getD j [])) = true) (fun _ _ vi _ => n - (intOf vi).toNat)
  case atStart => exact ⟨0, by omega, rfl, S2, fun j hj => by omega⟩
  case round =>
    clear S2
    obtain ⟨i, hi, rfl, S, hall⟩ := hrel
    have HALL := Hid.mk' hall
    clear hall
    by_cases hlt : i < n
    · have y0 : (i : Int) < (n : Int) := by omega
      have y1 : (0 : Int) ≤ (i : Int) := by omega
      have hVr := HV.out.keep S.base
      have hrow : wr.ownsRow 0 31 2 (.slice (some ⟨g, 0, none⟩) n vc) n (vcells ps) := S.base.own HVN.out (fun _ _ h => h)
      obtain ⟨g0, g1⟩ := vcells_get ps i (by have := HPN.out; omega)
      have hRi := HV.out.mem i (by have := HPN.out; omega)
      obtain ⟨idi, vmi, hpi⟩ : ∃ idi vmi, ps.getD i (0, undef) = (idi, vmi) := ⟨_, _, rfl⟩
      rw [hpi] at g0 g1 hRi
      obtain ⟨si, hsi⟩ : ∃ si, L.getD i [] = si := ⟨_, rfl⟩
      rw [hsi] at hRi
      have hsm : si ∈ L := by rw [← hsi]; simp [show i < L.length by have := HN.out; omega]
      obtain ⟨hsl, hsx⟩ := HB.out si hsm
      have hs0 := HNE.out i (by have := HN.out; omega) HALL.out
      rw [hsi] at hs0
      obtain ⟨xa, xc, hxv⟩ := own_sliceB hRi
      obtain ⟨xn, hxn⟩ : ∃ xn, si.length = xn := ⟨_, rfl⟩
      rw [hxn] at hxv
      have hxv : vmi = .slice xa xn xc := hxv
      subst hxv
      have c0 : wr.cell? ⟨g, i * 2, none⟩ = some (.int .u64 idi) := own_cell hrow g0
      have c1 : wr.cell? ⟨g, i * 2 + 1, none⟩ = some (.slice xa xn xc) := own_cell hrow g1
      obtain ⟨b7, hb7⟩ : ∃ b7, wr.heap.size = b7 := ⟨_, rfl⟩
      have S1 := S.blkAt #[.int .u64 idi, .slice xa xn xc] 31 hb7
      have hck := clone_k (show Rd w (.slice xa xn xc) si from hRi) (by omega) hxn
      have HSI := Hid.mk' hsi
      have HXN := Hid.mk' hxn
      have HRI := Hid.mk' hRi
      have HSX := Hid.mk' hsx
      clear S hVr hrow g0 g1 hpi hsi hxn hRi hsm hsx
      go_upto_region 7 with fail
      clear c0 c1 hb7
      generalize (wr.alloc (.cells #[.int .u64 idi, .slice xa xn xc] 31)) = w3 at *
      have hb : w3.heap[b7]? = _ := S1.head
      have c1 : w3.cell? ⟨b7, 1, none⟩ = some (.slice xa xn xc) := cell_of_row w3 b7 1 _ 31 (0, 0) hb
      go_wp2_with fail
      refine (hck w3 S1.base).mono ?_
      rintro r w4 ⟨v4, rfl, S4'⟩
      have S4 : Sep w w4 (Res.row 9 1 v4 si.length (strs si) :: Res.blk b7 #[.int .u64 idi, .slice xa xn xc] 31 :: Res.blk bf #[.func (.func 25) #[] #[.pointer (some ⟨b1, 0, none⟩), .pointer (some ⟨b2, 0, none⟩)]] 72 :: Res.blk bc #[.int .u64 id, .slice ma mn mc, .slice (some ⟨g, 0, none⟩) n vc] 34 :: []) := by
        have h := S1.glue S4'
        rw [HXN.out]
        exact h
      have hdl := delf2_any (p := .pointer (some ⟨bf, 0, none⟩)) (q := .pointer (some ⟨bc, 0, none⟩)) (P := fun x => !hol me kv num x || !has view x) S4 (by omega) (fun w' S x hx => kp1_any (HH.out.keep S.base) (cell_of_row w' bf 0 _ 72 (0, 0) S.tail.head) (cell_of_row w' bc 1 _ 34 (0, 0) S.tail.tail.head) (HR.out.keep S.base) (by omega) x (HSX.out x hx))
      clear hck S4' S1 hb c1
      go_wp2_with fail
      refine hdl.mono ?_
      rintro r w5 ⟨v5, rfl, S5⟩
      obtain ⟨kl, hkl⟩ : ∃ kl, kf view (hol me kv num) si = kl := ⟨_, rfl⟩
      have S5 : Sep w w5 (Res.row 9 1 v5 (kf view (hol me kv num) si).length (strs (kf view (hol me kv num) si)) :: Res.blk b7 #[.int .u64 idi, .slice xa xn xc] 31 :: Res.blk bf #[.func (.func 25) #[] #[.pointer (some ⟨b1, 0, none⟩), .pointer (some ⟨b2, 0, none⟩)]] 72 :: Res.blk bc #[.int .u64 id, .slice ma mn mc, .slice (some ⟨g, 0, none⟩) n vc] 34 :: []) := S5
      have hklen : (kf view (hol me kv num) si).length ≤ si.length := List.length_filter_le _ _
      rw [hkl] at S5 hklen
      have HKL := Hid.mk' hkl
      have hb : w5.heap[b7]? = _ := S5.tail.head
      have c1 : w5.cell? ⟨b7, 1, none⟩ = some (.slice xa xn xc) := cell_of_row w5 b7 1 _ 31 (0, 0) hb
      have hq := quorum_any (HRI.out.keep S5.base) (show Rd w5 v5 kl from S5.head) (by omega) (by omega) hs0
      have S6 := S5.tail.tail
      have HS6 := Hid.mk' S6
      clear hdl S4 hkl S5 S6 hb
      go_wp2_with fail
      refine hq.mono ?_
      rintro r w6 ⟨rfl, k6⟩
      have S7 := HS6.out.quiet k6
      obtain ⟨t, ht⟩ : ∃ t, quo si kl = t := ⟨_, rfl⟩
      rw [ht]
      have HT := Hid.mk' ht
      clear hq c1 k6 ht HS6
      cases t with
      | true =>
        go_wp2
        go_roundw
        case rel =>
          refine ⟨i + 1, by omega, by go_num, S7, fun j hj => ?_⟩
          by_cases hji : j = i
          · subst hji; rw [HSI.out, HKL.out]; exact HT.out
          · exact HALL.out j (by omega)
        case measure => simp [intOf]; omega
      | false =>
        have hka : kall view (hol me kv num) L = false := by
          unfold kall
          rw [List.all_eq_false]
          refine ⟨si, by rw [← HSI.out]; simp [show i < L.length by have := HN.out; omega], ?_⟩
          rw [HKL.out, HT.out]; simp
        have HKA := Hid.mk' hka
        have hk7 := S7.base
        clear hka
        go_wp2
        go_ret
        exact ⟨by rw [HKA.out]; simp, hk7⟩
    · have hka : kall view (hol me kv num) L = true := by
        unfold kall
        rw [List.all_eq_true]
        intro l hl
        obtain ⟨j, hj, rfl⟩ := List.getElem_of_mem hl
        have := HALL.out j (by have := HN.out; omega)
        simpa [hj] using this
      have HKA := Hid.mk' hka
      have hk7 := S.base
      clear hka S
      go_wp2
      go_ret
      exact ⟨by rw [HKA.out]; simp, hk7⟩
end Go.Proofs.Ybulkcdkc
