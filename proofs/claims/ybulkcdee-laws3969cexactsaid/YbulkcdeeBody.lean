import Derived.Test.YbulkcdeeHead
namespace Go.Proofs.Ybulkcdee
open Go.RowKit

/-! ### What is written, as plain functions -/
def cpre : List UInt8 → List UInt8 → Nat
  | a :: xs, b :: ys => if a = b then cpre xs ys + 1 else 0
  | _, _ => 0
def pre (L : Nat) (p s : ByteArray) : Nat := min L (cpre p.data.toList s.data.toList)

theorem cpre_le (xs ys : List UInt8) : cpre xs ys ≤ xs.length ∧ cpre xs ys ≤ ys.length := by
  induction xs generalizing ys with
  | nil => simp [cpre]
  | cons a xs ih =>
    cases ys with
    | nil => simp [cpre]
    | cons b ys =>
      have := ih ys
      simp only [cpre]; split <;> simp <;> omega
theorem cpre_eq (xs ys : List UInt8) (i : Nat) (h : i < cpre xs ys) : xs[i]? = ys[i]? := by
  induction xs generalizing ys i with
  | nil => simp [cpre] at h
  | cons a xs ih =>
    cases ys with
    | nil => simp [cpre] at h
    | cons b ys =>
      simp only [cpre] at h
      split at h
      · cases i with
        | zero => simp [*]
        | succ i => simpa using ih ys i (by omega)
      · omega
theorem cpre_ne (xs ys : List UInt8) (h1 : cpre xs ys < xs.length) (h2 : cpre xs ys < ys.length) : xs[cpre xs ys]? ≠ ys[cpre xs ys]? := by
  induction xs generalizing ys with
  | nil => simp at h1
  | cons a xs ih =>
    cases ys with
    | nil => simp at h2
    | cons b ys =>
      simp only [cpre] at h1 h2 ⊢
      split at h1
      · rename_i e
        rw [if_pos e] at h2 ⊢
        simpa using ih ys (by simpa using h1) (by simpa using h2)
      · rename_i e
        rw [if_neg e]
        simpa using e

theorem pre_is (L : Nat) (p s : ByteArray) : IsPre L p s (pre L p s) := by
  have h := cpre_le p.data.toList s.data.toList
  have e1 : p.data.toList.length = p.size := by simp
  have e2 : s.data.toList.length = s.size := by simp
  have g1 : ∀ i (h : i < p.size), p.data.toList[i]? = some p[i] := fun i h => by
    rw [List.getElem?_eq_getElem (by omega)]; rfl
  have g2 : ∀ i (h : i < s.size), s.data.toList[i]? = some s[i] := fun i h => by
    rw [List.getElem?_eq_getElem (by omega)]; rfl
  refine ⟨by unfold pre; omega, by unfold pre; omega, by unfold pre; omega, fun i h1 h2 hi => ?_, ?_⟩
  · have := cpre_eq p.data.toList s.data.toList i (by unfold pre at hi; omega)
    rw [g1 i h1, g2 i h2] at this
    exact Option.some.inj this
  · by_cases hL : L ≤ cpre p.data.toList s.data.toList
    · left; unfold pre; omega
    · have hp : pre L p s = cpre p.data.toList s.data.toList := by unfold pre; omega
      by_cases hc1 : cpre p.data.toList s.data.toList < p.size
      · by_cases hc2 : cpre p.data.toList s.data.toList < s.size
        · refine .inr (.inr (.inr ⟨by omega, by omega, fun e => ?_⟩))
          have := cpre_ne p.data.toList s.data.toList (by omega) (by omega)
          rw [g1 _ hc1, g2 _ hc2] at this
          apply this
          simp only [hp] at e
          rw [e]
        · right; right; left; omega
      · right; left; omega

/-- One entry's bytes. -/
def entB (sh L : Nat) (p s : ByteArray) (c : Nat) : List Value := uvb 10 (hdn s.size sh (pre L p s)) ++ Lib.strCells (s.extract (pre L p s) s.size) ++ uvb 10 c
def prevOf (ss : List ByteArray) : Nat → ByteArray
  | 0 => ByteArray.empty
  | k + 1 => ss.getD k ByteArray.empty
def entsTo (sh L : Nat) (ss : List ByteArray) (cs : List Nat) : Nat → List Value
  | 0 => []
  | k + 1 => entsTo sh L ss cs k ++ entB sh L (prevOf ss k) (ss.getD k ByteArray.empty) (cs.getD k 0)

theorem entB_len (sh L : Nat) (p s : ByteArray) (c : Nat) (hs : s.size ≤ 2000000) : (entB sh L p s c).length ≤ 2000020 := by
  have h1 := uvb_len 10 (hdn s.size sh (pre L p s))
  have h2 := uvb_len 10 c
  simp [entB, Lib.strCells_length]
  omega
theorem entsTo_len (sh L : Nat) (ss : List ByteArray) (cs : List Nat) (hs : ∀ i, (ss.getD i ByteArray.empty).size ≤ 2000000) (k : Nat) : (entsTo sh L ss cs k).length ≤ k * 2000020 := by
  induction k with
  | zero => simp [entsTo]
  | succ k ih => have := entB_len sh L (prevOf ss k) (ss.getD k ByteArray.empty) (cs.getD k 0) (hs k); simp only [entsTo, List.length_append]; omega
theorem prevOf_le (ss : List ByteArray) (hs : ∀ i, (ss.getD i ByteArray.empty).size ≤ 2000000) (k : Nat) : (prevOf ss k).size ≤ 2000000 := by
  cases k with
  | zero => simp [prevOf]
  | succ k => exact hs k

theorem App.pre {e : TypeId} {size : Nat} {w w1 w' : World} {v v' : Value} {n n' : Nat} {xs xs' : List Value} (hk : Keeps (fun _ => False) w w1) (h : App e size w1 v n xs v' w' n' xs') : App e size w v n xs v' w' n' xs' :=
  ⟨h.own, (hk.mono (fun _ _ h => h.elim)).trans h.keeps (fun _ _ h => h), fun g hg => by
    rcases h.moved g hg with e | e
    · exact .inl e
    · exact .inr (Nat.le_trans hk.size e)⟩

theorem Keeps.none_below {w w1 : World} (h : Below w.heap.size w w1) : Keeps (fun _ => False) w w1 := ⟨h.os, h.tape, h.output, h.size, fun k hk _ => h.block k hk⟩

/-- The two boxes, in a later world. -/
theorem boxes {w wr : World} {v A m kd f : Value} (hk : Keeps (fun k => v.ownBlock = some k) ((w.alloc (.cells #[A] 32)).alloc (.cells #[m, kd, f] 30)) wr) (hvl : ∀ g, v.ownBlock = some g → g < w.heap.size) :
    wr.cell? ⟨w.heap.size, 0, none⟩ = some A ∧ wr.cell? ⟨w.heap.size + 1, 0, none⟩ = some m ∧ wr.cell? ⟨w.heap.size + 1, 1, none⟩ = some kd ∧ wr.cell? ⟨w.heap.size + 1, 2, none⟩ = some f ∧ w.heap.size + 1 < wr.heap.size ∧ w.heap.size < wr.heap.size := by
  have hsz := hk.size
  simp at hsz
  refine ⟨hk.cells (fun h => ?_) (by simp), hk.cells (fun h => ?_) (by simp), hk.cells (fun h => ?_) (by simp), hk.cells (fun h => ?_) (by simp), by omega, by omega⟩ <;> (have := hvl _ h; omega)

theorem Ents.keep {S : Nat → Prop} {w wr : World} {E n : Nat} {ss : List ByteArray} {cs : List Nat} (he : Ents w E n ss cs) (hk : Keeps S w wr) (hS : ¬ S E) : Ents wr E n ss cs :=
  ⟨he.ls, he.lc, he.hn, fun i hi => hk.cells hS (he.str i hi), fun i hi => hk.cells hS (he.ctr i hi), he.hs, he.hc⟩

theorem Ents.get {w : World} {E n : Nat} {ss : List ByteArray} {cs : List Nat} (he : Ents w E n ss cs) {k : Nat} (hk : k < n) :
    ∃ (s : ByteArray) (c : Nat), Hid (ss.getD k ByteArray.empty = s) ∧ Hid (cs.getD k 0 = c) ∧ s.size ≤ 2000000 ∧ Hid (c < 128 ^ 9 * 2) ∧ w.cell? ⟨E, k * 2, none⟩ = some (.string s) ∧ w.cell? ⟨E, k * 2 + 1, none⟩ = some (.int .u64 c) :=
  ⟨_, _, rfl, rfl, he.hs k, he.hc k, he.str k hk, he.ctr k hk⟩

theorem App.len {e : TypeId} {w w' : World} {v v' : Value} {n n' : Nat} {xs xs' : List Value} (h : App e 1 w v n xs v' w' n' xs') : n' = xs'.length := by
  have := h.own.1; omega

theorem App.norm {e : TypeId} {w w' : World} {v v' : Value} {n n' : Nat} {xs xs' : List Value} (h : App e 1 w v n xs v' w' n' xs') : App e 1 w v n xs v' w' xs'.length xs' := by
  have := h.len; subst this; exact h

set_option maxHeartbeats 1600000 in
theorem abody_any (m : Value) (kd : Value) (sh L E n : Nat) (ss : List ByteArray) (cs : List Nat) (v : Value) (xs : List Value) (w : World) (hs : sh ≤ 7) (hL : Hid (L = 2 ^ sh - 1)) (he : Ents w E n ss cs)
    (hown : w.ownsRow 0 5 1 v xs.length xs) (hE : ∀ g, v.ownBlock = some g → g ≠ E) (hxl : xs.length ≤ 100) :
    Calls Yba.prog 8 #[.agg #[.slice (some ⟨E, 0, none⟩) n n], v, .agg #[m, kd, .int .u64 sh]] w fun e w' => ∃ v', e = .returned v' ∧
      App 5 1 w v xs.length xs v' w' (xs ++ uvb 10 n ++ entsTo sh L ss cs n).length (xs ++ uvb 10 n ++ entsTo sh L ss cs n) := by
  have hn := he.hn
  have hul := uvb_len 10 n
  obtain ⟨i0, hi, hz0, hz1, hz2⟩ := info_parts Yba.info5
  have hnl : Hid (n < 128 ^ 9 * 2) := by unfold Hid; omega
  have hvl : ∀ g, v.ownBlock = some g → g < w.heap.size := fun g hg => (hown.lt g hg).2
  have HN : Hid ((xs ++ uvb 10 n).length ≤ 110) := by unfold Hid; simp; omega
  generalize hX : xs ++ uvb 10 n = X at *
  have HX := Hid.mk' hX
  clear hX
  go_enter Yba.func8, Yba.ntmps8
  go_wp2_with (go_at_call 11; refine (auv_any v xs n _ hnl ((hown.alloc _).alloc _) (by omega)).mono ?_; rintro e w' ⟨v1, rfl, ha1⟩; have hb1 := (boxes ha1.keeps hvl).1)
  go_loopw [1, 7, 21] (fun vb p i wr => ∃ (k : Nat), k ≤ n ∧ i = .int .i64 k ∧ p = .string (prevOf ss k) ∧ App 5 1 ((w.alloc (.cells #[.slice (some ⟨E, 0, none⟩) n n] 32)).alloc (.cells #[m, kd, .int .u64 sh] 30)) v xs.length xs vb wr (X ++ entsTo sh L ss cs k).length (X ++ entsTo sh L ss cs k)) (fun _ _ i _ => n - (intOf i).toNat)
  case atStart => exact ⟨0, Nat.zero_le _, rfl, rfl, by simpa [entsTo, HX.out] using ha1⟩
  case round =>
    obtain ⟨k, hk, rfl, rfl, ha⟩ := hrel
    clear ha1 hb1
    obtain ⟨b0, f0, f1, f2, hz3, hz4⟩ := boxes ha.keeps hvl
    have hpl := prevOf_le ss he.hs k
    by_cases hlt : k < n
    · have hew : Ents wr E n ss cs := he.keep (((Keeps.refl _ w).alloc _ |>.alloc _).trans ha.keeps (fun _ _ h => h)) (fun h => hE _ h rfl)
      obtain ⟨s, c, hs1, hc1, hss, hcc, hx, hy⟩ := hew.get hlt
      have hstep : Hid (X ++ entsTo sh L ss cs (k + 1) = X ++ entsTo sh L ss cs k ++ entB sh L (prevOf ss k) s c) := by unfold Hid; rw [entsTo, hs1.out, hc1.out, List.append_assoc]
      have hprev : Hid (prevOf ss (k + 1) = s) := hs1
      have hlen : (X ++ entsTo sh L ss cs k).length ≤ 110 + 1024 * 2000020 := by
        have h1 := HN.out
        have h2 := entsTo_len sh L ss cs he.hs k
        have h3 : k * 2000020 ≤ 1024 * 2000020 := Nat.mul_le_mul_right _ (by omega)
        rw [List.length_append]; omega
      have hvb : ∀ g, u1.ownBlock = some g → g < wr.heap.size := fun g hg => (ha.own.lt g hg).2
      generalize hY : X ++ entsTo sh L ss cs k = Y at *
      clear hY he hew hs1 hc1
      generalize hpp : prevOf ss k = pp at *
      clear hpp
      have ho := ha.own
      go_wp2_with fail
      refine (head_any _ _ sh L pp s _ hs hL (by omega) (by omega)).mono ?_
      rintro e w1 ⟨q, rfl, hq, hb1⟩
      obtain rfl := hq.unique (pre_is L pp s)
      have hql := hq.hn
      have hk1 : Keeps (fun _ => False) wr w1 := ((Keeps.refl _ _).alloc _).trans (Keeps.none_below hb1) (fun _ _ h => h)
      have hlt1 : wr.heap.size < w1.heap.size := by have := hb1.size; simp at this; omega
      have hB0 : w1.cell? ⟨wr.heap.size, 0, none⟩ = some (.string s) := (Keeps.none_below hb1).cells (fun h => h) (by simp)
      have hB1 : w1.cell? ⟨wr.heap.size, 1, none⟩ = some (.int .u64 c) := (Keeps.none_below hb1).cells (fun h => h) (by simp)
      have ho1 : w1.ownsRow 0 5 1 u1 Y.length Y := hk1.own ho (fun _ _ h => h)
      have hv1 : ∀ g, u1.ownBlock = some g → g < wr.heap.size := fun g hg => (ho.lt g hg).2
      clear hx hy b0 f0 f1 f2 hb1 ho
      go_wp2_with fail
      refine (auv_any u1 Y _ w1 (hdn_lt _ _ _) ho1 (by omega)).mono ?_
      rintro e w2 ⟨v2, rfl, ha2⟩
      have hl2 := uvb_len 10 (hdn s.size sh (pre L pp s))
      have ho2 := ha2.own
      have hB02 : w2.cell? ⟨wr.heap.size, 0, none⟩ = some (.string s) := ha2.keeps.cells (fun h => by have := hv1 _ h; omega) hB0
      have hB12 : w2.cell? ⟨wr.heap.size, 1, none⟩ = some (.int .u64 c) := ha2.keeps.cells (fun h => by have := hv1 _ h; omega) hB1
      have hn2 : ∀ g, v2.ownBlock = some g → g ≠ wr.heap.size := fun g hg => by
        rcases ha2.moved g hg with h | h
        · have := hv1 g h; omega
        · omega
      have hyl : (Y ++ uvb 10 (hdn s.size sh (pre L pp s))).length = Y.length + (uvb 10 (hdn s.size sh (pre L pp s))).length := List.length_append
      have HYL := Hid.mk' hyl
      have hyb : (Y ++ uvb 10 (hdn s.size sh (pre L pp s))).length ≤ 3000000000 := by omega
      clear hyl hB0 hB1 ho1
      go_wp2_with (at_builtin; refine wpList_app_string _ rfl (.tmp 36) (.tmp 37) 33 9 rfl 5 i0 Yba.underlying33 Yba.underlying9 hi hz0 hz1 hz2 v2 _ _ rfl ho2 (s.extract (pre L pp s) s.size) rfl (by simp [maxLen]; omega) (by simp; omega) ?_; intro v3 w3 ha3 _; have hB13 : w3.cell? ⟨wr.heap.size, 1, none⟩ = some (.int .u64 c) := ha3.keeps.cells (fun h => hn2 _ h rfl) hB12; have hB03 : w3.cell? ⟨wr.heap.size, 0, none⟩ = some (.string s) := ha3.keeps.cells (fun h => hn2 _ h rfl) hB02)
      have ha3' := App.norm ha3
      have hl3 := Hid.mk' (uvb_len 10 c)
      have hlz : (Y ++ uvb 10 (hdn s.size sh (pre L pp s)) ++ Lib.strCells (s.extract (pre L pp s) s.size)).length ≤ 4000000000 := by rw [List.length_append, Lib.strCells_length]; simp; omega
      refine (auv_any v3 _ c w3 hcc ha3'.own (by omega)).mono ?_
      rintro e w4 ⟨v4, rfl, ha4⟩
      have hn3 : ∀ g, v3.ownBlock = some g → g ≠ wr.heap.size := fun g hg => by
        rcases ha3'.moved g hg with h | h
        · exact hn2 g h
        · have := ha2.keeps.size; omega
      have hB04 : w4.cell? ⟨wr.heap.size, 0, none⟩ = some (.string s) := ha4.keeps.cells (fun h => hn3 _ h rfl) hB03
      have hfin : App 5 1 ((w.alloc (.cells #[.slice (some ⟨E, 0, none⟩) n n] 32)).alloc (.cells #[m, kd, .int .u64 sh] 30)) v xs.length xs v4 w4 (X ++ entsTo sh L ss cs (k + 1)).length (X ++ entsTo sh L ss cs (k + 1)) := by
        rw [hstep.out]
        have := ha.trans (App.pre hk1 (ha2.trans (ha3'.trans ha4)))
        simpa only [entB, List.append_assoc] using this
      clear ha ha2 ha3 ha3' ha4 hi
      go_wp2
      go_roundw
      case rel => exact ⟨k + 1, by omega, by go_num, by rw [hprev.out], hfin⟩
      case measure => simp [intOf]; omega
    · go_wp2
      go_ret
      have hkn : k = n := by omega
      subst hkn
      exact ⟨_, rfl, ha.alloc.alloc⟩
end Go.Proofs.Ybulkcdee
