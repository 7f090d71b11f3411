import Derived.Test.YbulkcdkcAhd
import Derived.Test.YbulkcdkcPm
namespace Go.Proofs.Ybulkcdkc
open Go.RowKit

/-- Whether a station holds a decision. -/
def hol (me : ByteArray) (kv : List (ByteArray × Nat)) (num : Nat) (x : ByteArray) : Bool := eqb x me || decide (num ≤ pv kv x)
/-- What the closure of holds reads. -/
structure Hc (w : World) (b1 b2 bco bm B : Nat) (me : ByteArray) (kv : List (ByteArray × Nat)) (num : Nat) : Prop where
  c : w.cell? ⟨b1, 0, none⟩ = some (.pointer (some ⟨bco, 0, none⟩))
  n : w.cell? ⟨b2, 0, none⟩ = some (.int .u64 num)
  m : w.cell? ⟨bco, 0, none⟩ = some (.pointer (some ⟨bm, 0, none⟩))
  id : w.cell? ⟨bm, 0, none⟩ = some (.string me)
  p : w.cell? ⟨bco, 9, none⟩ = some (.map (some B))
  map : Pm w B kv
theorem Hc.keep {w w' : World} {b1 b2 bco bm B : Nat} {me : ByteArray} {kv : List (ByteArray × Nat)} {num : Nat} (h : Hc w b1 b2 bco bm B me kv num) (k : Keeps (fun _ => False) w w') : Hc w' b1 b2 bco bm B me kv num :=
  ⟨k.st h.c, k.st h.n, k.st h.m, k.st h.id, k.st h.p, h.map.keepF k⟩

set_option maxRecDepth 100000 in
theorem holds1_any {w : World} {b1 b2 bco bm B : Nat} {me : ByteArray} {kv : List (ByteArray × Nat)} {num : Nat} (h : Hc w b1 b2 bco bm B me kv num) (x : ByteArray) (hx : x.size ≤ maxLen) :
    Calls Yba.prog 25 #[.string x, .pointer (some ⟨b1, 0, none⟩), .pointer (some ⟨b2, 0, none⟩)] w fun r w' => r = .returned (.bool (hol me kv num x)) ∧ Keeps (fun _ => False) w w' := by
  have c0 := h.c
  have c1 := h.n
  have c2 := h.m
  have c3 := h.id
  have c4 := h.p
  have hlk : ∀ nq, (Instr.lookup 44 (.map (some B)) (.string x) false).run Yba.prog (w.drewN nq) = .ok (.int .u64 (pv kv x)) (w.drewN nq) := fun nq => (h.map.keepF ((Keeps.refl (fun _ => False) w).drewN nq)).look hx
  clear h
  by_cases hx : x = me
  · subst hx
    have e0 : hol x kv num x = true := by unfold hol; rw [eqb_iff.2 rfl]; rfl
    go_enter Yba.func25, Yba.ntmps25
    go_wp2
    go_quiet (fail)
    go_wp2
    go_ret
    exact ⟨by rw [e0]; simp, (Keeps.refl _ _).drewN _⟩
  · have hx' : (x.toList == me.toList) = false := bytes_ne hx
    have e0 : hol me kv num x = decide (num ≤ pv kv x) := by unfold hol; rw [eqb_ne hx]; rfl
    generalize pv kv x = q at *
    go_enter Yba.func25, Yba.ntmps25
    go_wp2
    go_quiet (fail)
    go_wp2
    go_ret
    exact ⟨by rw [e0]; simp, (Keeps.refl _ _).drewN _⟩

theorem holds_any (w : World) (bco num : Nat) : Calls Yba.prog 21 #[.pointer (some ⟨bco, 0, none⟩), .int .u64 num] w fun r w' => ∃ b1 b2, r = .returned (.func (.func 25) #[] #[.pointer (some ⟨b1, 0, none⟩), .pointer (some ⟨b2, 0, none⟩)]) ∧ Keeps (fun _ => False) w w' ∧ w'.cell? ⟨b1, 0, none⟩ = some (.pointer (some ⟨bco, 0, none⟩)) ∧ w'.cell? ⟨b2, 0, none⟩ = some (.int .u64 num) := by
  have hmf : ∀ (fn : Fn) (first cap : Array Value) (w : World), (Instr.makeFunc fn first cap).run Yba.prog w = .ok (.func fn first cap) w := fun _ _ _ _ => rfl
  have k := ((Keeps.refl (fun _ => False) w).alloc (.cells #[.pointer (some ⟨bco, 0, none⟩)] 47)).alloc (.cells #[.int .u64 num] 23)
  have h1 : ((w.alloc (.cells #[.pointer (some ⟨bco, 0, none⟩)] 47)).alloc (.cells #[.int .u64 num] 23)).cell? ⟨w.heap.size, 0, none⟩ = some (.pointer (some ⟨bco, 0, none⟩)) := (((Keeps.refl (fun _ => False) _).alloc (.cells #[.int .u64 num] 23))).st (cell_of_row _ w.heap.size 0 _ 47 (0, 0) (heap_alloc_new w _))
  have h2 : ((w.alloc (.cells #[.pointer (some ⟨bco, 0, none⟩)] 47)).alloc (.cells #[.int .u64 num] 23)).cell? ⟨w.heap.size + 1, 0, none⟩ = some (.int .u64 num) := by
    simp
  go_enter Yba.func21, Yba.ntmps21
  go_wp2
  go_ret
  exact ⟨_, _, rfl, k, h1, h2⟩
/-- The number of the last change of view. -/
def lastN (l : Nat) : List Dec → Nat
  | [] => l
  | d :: ds => lastN (if d.k = 2 ∨ d.k = 3 then d.num else l) ds
theorem lastN_snoc (d : Dec) : ∀ (ds : List Dec) (l : Nat), lastN l (ds ++ [d]) = if d.k = 2 ∨ d.k = 3 then d.num else lastN l ds
  | [], l => by simp [lastN]
  | e :: ds, l => by simp only [List.cons_append, lastN]; exact lastN_snoc d ds _
def maxU : Nat := 18446744073709551615

set_option maxHeartbeats 800000 in
set_option maxRecDepth 100000 in
theorem holding_any {w : World} {bco bm : Nat} {vcar : Value} {ds : List Dec} {id : Int} {vm vl : Value} {mp : Nat} (hC : Co w bco bm vcar ds id vm vl mp) (hds : ds.length ≤ 400) :
    Calls Yba.prog 15 #[.pointer (some ⟨bco, 0, none⟩)] w fun r w' => ∃ b1 b2, r = .returned (.func (.func 25) #[] #[.pointer (some ⟨b1, 0, none⟩), .pointer (some ⟨b2, 0, none⟩)]) ∧ Keeps (fun _ => False) w w' ∧ w'.cell? ⟨b1, 0, none⟩ = some (.pointer (some ⟨bco, 0, none⟩)) ∧ w'.cell? ⟨b2, 0, none⟩ = some (.int .u64 (lastN maxU ds)) := by
  obtain ⟨n, hn⟩ : ∃ n, ds.length = n := ⟨_, rfl⟩
  obtain ⟨va, vc, hvc⟩ := own_sliceB hC.row
  rw [hn] at hvc
  subst hvc
  have m1 := hC.car
  have HC := Hid.mk' hC
  have HN := Hid.mk' hn
  rw [hn] at hds
  clear hC hn
  go_enter Yba.func15, Yba.ntmps15
  go_wp2
  go_loopw [3, 5, 11] (fun vl _ vi wx => ∃ i : Nat, i ≤ n ∧ vi = .int .i64 i ∧ vl = .int .u64 (lastN maxU (ds.take i)) ∧ Keeps (fun _ => False) w wx) (fun _ _ vi _ => n - (intOf vi).toNat)
  case atStart => exact ⟨0, by omega, rfl, rfl, Keeps.refl _ _⟩
  case round =>
    obtain ⟨i, hi, rfl, hu3, hk⟩ := hrel
    subst hu3
    by_cases hlt : i < n
    · have y0 : (i : Int) < (n : Int) := by omega
      have y1 : (0 : Int) ≤ (i : Int) := by omega
      obtain ⟨d, hd⟩ : ∃ d, ds.getD i dd = d := ⟨_, rfl⟩
      have hds1 : ds.take (i + 1) = ds.take i ++ [d] := by
        rw [List.take_add_one, List.getElem?_eq_getElem (by have := HN.out; omega)]
        have : ds[i]'(by have := HN.out; omega) = d := by rw [← hd]; simp [show i < ds.length by have := HN.out; omega]
        rw [this]; rfl
      have hlast := lastN_snoc d (ds.take i) maxU
      rw [← hds1] at hlast
      have HL := Hid.mk' hlast
      have hCr := HC.out.keep hk
      obtain ⟨g, cap, hg, hnc, hcm, -⟩ := own_atS hCr.row (by have := HN.out; omega)
      rw [HN.out] at hg
      injection hg with e1 _ e3
      subst e1
      subst e3
      have hrow : wr.ownsRow 0 69 8 (.slice (some ⟨g, 0, none⟩) n vc) n (ccells ds) := by have := hCr.row; rwa [HN.out] at this
      have cg : ∀ j, j < 8 → wr.cell? ⟨g, i * 8 + j, none⟩ = d.cells[j]? := fun j hj => by
        have h1 := ccells_get ds i j (by have := HN.out; omega) hj
        rw [hd] at h1
        obtain ⟨u, hu⟩ : ∃ u, d.cells[j]? = some u := ⟨d.cells[j]'(by simp [Dec.cells]; omega), by simp⟩
        rw [hu] at h1 ⊢
        exact own_cell hrow h1
      have c0 : wr.cell? ⟨g, i * 8, none⟩ = some (.int .u64 d.num) := cg 0 (by omega)
      have c1 : wr.cell? ⟨g, i * 8 + 1, none⟩ = some (.int .u8 d.k) := cg 1 (by omega)
      have c2 : wr.cell? ⟨g, i * 8 + 2, none⟩ = some (.string d.fr) := cg 2 (by omega)
      have c3 : wr.cell? ⟨g, i * 8 + 3, none⟩ = some (.int .u64 d.sq) := cg 3 (by omega)
      have c4 : wr.cell? ⟨g, i * 8 + 4, none⟩ = some (.int .u64 0) := cg 4 (by omega)
      have c5 : wr.cell? ⟨g, i * 8 + 5, none⟩ = some (.int .i64 0) := cg 5 (by omega)
      have c6 : wr.cell? ⟨g, i * 8 + 6, none⟩ = some (.pointer none) := cg 6 (by omega)
      have c7 : wr.cell? ⟨g, i * 8 + 7, none⟩ = some (.bool false) := cg 7 (by omega)
      obtain ⟨b5, hb5⟩ : ∃ b5, wr.heap.size = b5 := ⟨_, rfl⟩
      have k3 := hk.alloc (.cells #[.int .u64 d.num, .int .u8 d.k, .string d.fr, .int .u64 d.sq, .int .u64 0, .int .i64 0, .pointer none, .bool false] 69)
      have h5 : (wr.alloc (.cells #[.int .u64 d.num, .int .u8 d.k, .string d.fr, .int .u64 d.sq, .int .u64 0, .int .i64 0, .pointer none, .bool false] 69)).heap[b5]? = some (.cells #[.int .u64 d.num, .int .u8 d.k, .string d.fr, .int .u64 d.sq, .int .u64 0, .int .i64 0, .pointer none, .bool false] 69 (0, 0)) := by subst hb5; exact heap_alloc_new wr _
      clear hCr hrow cg hds1 hd hnc hcm hlast
      go_upto_region 5 with fail
      clear c0 c1 c2 c3 c4 c5 c6 c7 hb5 hk
      generalize (wr.alloc (.cells #[.int .u64 d.num, .int .u8 d.k, .string d.fr, .int .u64 d.sq, .int .u64 0, .int .i64 0, .pointer none, .bool false] 69)) = w3 at *
      have f0 : w3.cell? ⟨b5, 0, none⟩ = some (.int .u64 d.num) := cell_of_row w3 b5 0 _ 69 (0, 0) h5
      have f1 : w3.cell? ⟨b5, 1, none⟩ = some (.int .u8 d.k) := cell_of_row w3 b5 1 _ 69 (0, 0) h5
      obtain ⟨dk, hdk⟩ : ∃ dk, d.k = dk := ⟨_, rfl⟩
      rw [hdk] at f1
      have HDK := Hid.mk' hdk
      clear hdk h5
      by_cases k2 : dk = 2
      · subst k2
        go_wp2
        go_roundw
        case rel => exact ⟨i + 1, by omega, by go_num, by rw [HL.out, if_pos (.inl HDK.out)], k3⟩
        case measure => simp [intOf]; omega
      · have k2' : ((dk : Int) == 2) = false := by simp; omega
        by_cases k3' : dk = 3
        · subst k3'
          go_wp2
          go_roundw
          case rel => exact ⟨i + 1, by omega, by go_num, by rw [HL.out, if_pos (.inr HDK.out)], k3⟩
          case measure => simp [intOf]; omega
        · have k3'' : ((dk : Int) == 3) = false := by simp; omega
          go_wp2
          go_roundw
          case rel => exact ⟨i + 1, by omega, by go_num, by rw [HL.out, if_neg (by rw [HDK.out]; omega)], k3⟩
          case measure => simp [intOf]; omega
    · obtain rfl : i = n := by omega
      rw [List.take_of_length_le (by have := HN.out; omega)]
      go_wp2_with fail
      refine (holds_any wr bco (lastN maxU ds)).mono ?_
      rintro r w4 ⟨b1, b2, rfl, k4, h1, h2⟩
      have hk4 := hk.trans k4 (fun _ _ h => h)
      go_wp2
      go_ret
      exact ⟨b1, b2, rfl, hk4, h1, h2⟩
end Go.Proofs.Ybulkcdkc
