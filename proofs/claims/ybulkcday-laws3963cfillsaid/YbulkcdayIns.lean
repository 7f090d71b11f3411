import Derived.Test.YbulkcdayCopy
import Derived.Deep.CutRange
import Derived.Deep.DeepCutAuto
namespace Go.Proofs.Ybulkcday
open Go.RowKit

set_option maxHeartbeats 400000 in
theorem start_raw {w : World} {p ge N ce i o : Nat} (c1 : w.cell? ⟨p, 1, none⟩ = some (.slice (some ⟨ge, 0, none⟩) N ce)) (hN : N ≤ 10000) (hi : i ≤ N) (h0 : i = 0 → o = 0) (hc : 0 < i → w.cell? ⟨ge, i - 1, none⟩ = some (.int .i64 o)) :
    Calls Yba.prog 33 #[.pointer (some ⟨p, 0, none⟩), .int .i64 i] w fun r w' => r = .returned (.int .i64 o) ∧ w' = w := by
  by_cases hi0 : i = 0
  · subst hi0
    obtain rfl := h0 rfl
    clear hc
    go_enter Yba.func33, Yba.ntmps33
    go_wp2
    go_ret
    exact ⟨rfl, rfl⟩
  · have hne : ((i : Int) == 0) = false := by simp; omega
    have hc := hc (by omega)
    have b1 : (0 : Int) ≤ (i : Int) - 1 := by omega
    clear h0
    go_enter Yba.func33, Yba.ntmps33
    go_wp2
    go_ret
    exact ⟨rfl, rfl⟩

/-- A node's memory, its lists bare. -/
structure Raw (w : World) (p gt T ct ge N ce : Nat) (vk : Value) (X Z : List Value) : Prop where
  blk : w.heap[p]? = some (.cells #[.slice (some ⟨gt, 0, none⟩) T ct, .slice (some ⟨ge, 0, none⟩) N ce, vk, .int .u64 0] 30 (0, 0))
  txt : w.ownsRow 0 5 1 (.slice (some ⟨gt, 0, none⟩) T ct) T X
  ens : w.ownsRow 0 3 1 (.slice (some ⟨ge, 0, none⟩) N ce) N Z
  pt : p ≠ gt
  pe : p ≠ ge
  te : gt ≠ ge

theorem Raw.cells {w : World} {p gt T ct ge N ce : Nat} {vk : Value} {X Z : List Value} (h : Raw w p gt T ct ge N ce vk X Z) :
    w.cell? ⟨p, 0, none⟩ = some (.slice (some ⟨gt, 0, none⟩) T ct) ∧ w.cell? ⟨p, 1, none⟩ = some (.slice (some ⟨ge, 0, none⟩) N ce) ∧ w.frozen? ⟨p, 0, none⟩ = false ∧ w.frozen? ⟨p, 1, none⟩ = false := by
  simp [World.cell?, World.frozen?, h.blk]

/-- The text's cell is stored anew, behind a change of its row. -/
theorem Raw.store0 {w w1 : World} {p gt T ct ge N ce gt' T' ct' : Nat} {vk : Value} {X X' Z : List Value} (h : Raw w p gt T ct ge N ce vk X Z) (hk : Keeps (fun b => b = gt) w w1) (ho : w1.ownsRow 0 5 1 (.slice (some ⟨gt', 0, none⟩) T' ct') T' X') (hm : gt' = gt ∨ w.heap.size ≤ gt') :
    Raw (w1.setCell ⟨p, 0, none⟩ (.slice (some ⟨gt', 0, none⟩) T' ct')) p gt' T' ct' ge N ce vk X' Z := by
  have hpl : p < w.heap.size := (Array.getElem?_eq_some_iff.1 h.blk).1
  have hel := h.ens.lt ge rfl
  have hpt := h.pt; have hpe := h.pe; have hte := h.te
  have hb1 := (hk.block p hpl h.pt).trans h.blk
  have he1 := hk.own h.ens (fun g hg => by simp [Value.ownBlock] at hg; omega)
  have hks : Keeps (fun b => b = p) w1 (w1.setCell ⟨p, 0, none⟩ (.slice (some ⟨gt', 0, none⟩) T' ct')) := (Keeps.refl (fun b => b = p) w1).setCell (p := ⟨p, 0, none⟩) (fun _ => rfl) _
  refine ⟨by rw [heap_setCell _ hb1]; simp, hks.own ho (fun g hg => by simp [Value.ownBlock] at hg; omega), hks.own he1 (fun g hg => by simp [Value.ownBlock] at hg; omega), by omega, by omega, by omega⟩
theorem Raw.store1 {w w1 : World} {p gt T ct ge N ce ge' N' ce' : Nat} {vk : Value} {X Z Z' : List Value} (h : Raw w p gt T ct ge N ce vk X Z) (hk : Keeps (fun b => b = ge) w w1) (ho : w1.ownsRow 0 3 1 (.slice (some ⟨ge', 0, none⟩) N' ce') N' Z') (hm : ge' = ge ∨ w.heap.size ≤ ge') :
    Raw (w1.setCell ⟨p, 1, none⟩ (.slice (some ⟨ge', 0, none⟩) N' ce')) p gt T ct ge' N' ce' vk X Z' := by
  have hpl : p < w.heap.size := (Array.getElem?_eq_some_iff.1 h.blk).1
  have htl := h.txt.lt gt rfl
  have hpt := h.pt; have hpe := h.pe; have hte := h.te
  have hb1 := (hk.block p hpl h.pe).trans h.blk
  have he1 := hk.own h.txt (fun g hg => by simp [Value.ownBlock] at hg; omega)
  have hks : Keeps (fun b => b = p) w1 (w1.setCell ⟨p, 1, none⟩ (.slice (some ⟨ge', 0, none⟩) N' ce')) := (Keeps.refl (fun b => b = p) w1).setCell (p := ⟨p, 1, none⟩) (fun _ => rfl) _
  refine ⟨by rw [heap_setCell _ hb1]; simp, hks.own he1 (fun g hg => by simp [Value.ownBlock] at hg; omega), hks.own ho (fun g hg => by simp [Value.ownBlock] at hg; omega), by omega, by omega, by omega⟩

theorem Raw.keep {S : Nat → Prop} {w w1 : World} {p gt T ct ge N ce : Nat} {vk : Value} {X Z : List Value} (h : Raw w p gt T ct ge N ce vk X Z) (hk : Keeps S w w1) (hp : ¬ S p) (ht : ¬ S gt) (he : ¬ S ge) : Raw w1 p gt T ct ge N ce vk X Z :=
  ⟨(hk.block p (Array.getElem?_eq_some_iff.1 h.blk).1 hp).trans h.blk, hk.own h.txt (fun g hg => by simp [Value.ownBlock] at hg; subst hg; exact ht), hk.own h.ens (fun g hg => by simp [Value.ownBlock] at hg; subst hg; exact he), h.pt, h.pe, h.te⟩

theorem own_max {w : World} {e : TypeId} {g n cap : Nat} {xs : List Value} (h : w.ownsRow 0 e 1 (.slice (some ⟨g, 0, none⟩) n cap) n xs) : cap ≤ 9223372036854775807 := by
  rcases h.2 with ⟨h, _⟩ | ⟨g', cap', cur, hv, hb, hg, hnc, hcm, hcs, htake⟩
  · cases h
  · cases hv; unfold maxLen at hcm; omega
theorem own_max2 {w : World} {e e' : TypeId} {g n cap g' n' cap' : Nat} {xs ys : List Value} (h : w.ownsRow 0 e 1 (.slice (some ⟨g, 0, none⟩) n cap) n xs) (h' : w.ownsRow 0 e' 1 (.slice (some ⟨g', 0, none⟩) n' cap') n' ys) : cap ≤ 9223372036854775807 ∧ cap' ≤ 9223372036854775807 := ⟨own_max h, own_max h'⟩

theorem Raw.row0 {w w1 : World} {p gt T ct ge N ce : Nat} {vk : Value} {X X' Z : List Value} (h : Raw w p gt T ct ge N ce vk X Z) (hk : Keeps (fun b => b = gt) w w1) (ho : w1.ownsRow 0 5 1 (.slice (some ⟨gt, 0, none⟩) T ct) T X') : Raw w1 p gt T ct ge N ce vk X' Z :=
  ⟨(hk.block p (Array.getElem?_eq_some_iff.1 h.blk).1 h.pt).trans h.blk, ho, hk.own h.ens (fun g hg => by have := h.te; simp [Value.ownBlock] at hg; omega), h.pt, h.pe, h.te⟩
theorem Raw.row1 {w w1 : World} {p gt T ct ge N ce : Nat} {vk : Value} {X Z Z' : List Value} (h : Raw w p gt T ct ge N ce vk X Z) (hk : Keeps (fun b => b = ge) w w1) (ho : w1.ownsRow 0 3 1 (.slice (some ⟨ge, 0, none⟩) N ce) N Z') : Raw w1 p gt T ct ge N ce vk X Z' :=
  ⟨(hk.block p (Array.getElem?_eq_some_iff.1 h.blk).1 h.pe).trans h.blk, hk.own h.txt (fun g hg => by have := h.te; simp [Value.ownBlock] at hg; omega), ho, h.pt, h.pe, h.te⟩

theorem nmin {a b : Nat} (h : a ≤ b) : Nat.min a b = a := Nat.min_eq_left h
/-- A part of an owned slice as a source. -/
theorem src_mid {w : World} {e : TypeId} {g n cap : Nat} {xs : List Value} (h : w.ownsRow 0 e 1 (.slice (some ⟨g, 0, none⟩) n cap) n xs) (k m c : Nat) (ao : Option Addr) (news : List Value) (hkm : k + m ≤ n) (hnews : news = (xs.drop k).take m) (h1 : ∀ u ∈ news, u.oneCell' = true) (hao : m ≠ 0 → ao = some ⟨g, k, none⟩) : Src w 1 (.slice ao m c) m news := by
  have hxl : xs.length = n := by have := h.1; omega
  have hnl : news.length = m := by rw [hnews]; simp; omega
  refine ⟨by omega, h1, ao, c, rfl, ?_, fun a ha j u hj => ?_⟩
  · intro hx
    refine Decidable.byContradiction fun h0 => ?_
    rw [hao h0] at hx; cases hx
  have hjm : j < m := by have := (List.getElem?_eq_some_iff.1 hj).1; omega
  rw [hao (by omega)] at ha
  cases ha
  rw [hnews, List.getElem?_take, if_pos hjm, List.getElem?_drop] at hj
  rw [← h.cells (g := g) rfl (k + j) u hj]
  congr 1
  unfold Addr.add
  by_cases e1 : j = 0
  · by_cases e2 : k = 0
    · simp [e1, e2]
    · simp [e1, e2]
  · simp [e1]

def ivals (l : List Nat) : List Value := l.map fun (z : Nat) => Value.int .i64 (z : Int)
theorem ivals_one (l : List Nat) : ∀ u ∈ ivals l, u.oneCell' = true := by
  intro u hu; simp only [ivals, List.mem_map] at hu; obtain ⟨z, _, rfl⟩ := hu; rfl
/-- c of the numbers are raised already. -/
def raised (sz c : Nat) (l : List Nat) : List Nat := (l.take c).map (· + sz) ++ l.drop c

theorem raised_get (sz c : Nat) (l : List Nat) (h : c < l.length) : (ivals (raised sz c l))[c]? = some (.int .i64 ((l[c] : Nat) : Int)) := by
  simp only [ivals, raised, List.getElem?_map, List.getElem?_append, List.length_map, List.length_take]
  rw [if_neg (by omega), List.getElem?_drop, show c + (c - min c l.length) = c by omega]
  simp [h]
theorem raised_set (sz c : Nat) (l : List Nat) (h : c < l.length) : (ivals (raised sz c l)).set c (.int .i64 (((l[c] + sz : Nat)) : Int)) = ivals (raised sz (c + 1) l) := by
  unfold ivals raised
  rw [← List.map_set]
  congr 1
  rw [List.set_append, if_neg (by simp; omega)]
  rw [List.take_succ_eq_append_getElem h, List.map_append, List.append_assoc]
  congr 1
  rw [show c - ((l.take c).map (· + sz)).length = 0 by simp; omega]
  rw [List.drop_eq_getElem_cons h, List.set_cons_zero]
  rfl
theorem raised_all (sz : Nat) (l : List Nat) (c : Nat) (h : l.length ≤ c) : raised sz c l = l.map (· + sz) := by
  unfold raised; rw [List.take_of_length_le h, List.drop_of_length_le h]; simp
theorem text_fin (X ys S : List Value) (T sz o : Nat) (hX : X.length = T) (hy : ys.length = sz) (hS : S.length = sz) (ho : o ≤ T) :
    ((X ++ ys).take (o + sz) ++ (X.drop o ++ (X ++ ys).drop (o + sz + (T - o)))).take o ++ (S ++ ((X ++ ys).take (o + sz) ++ (X.drop o ++ (X ++ ys).drop (o + sz + (T - o)))).drop (o + sz)) = X.take o ++ (S ++ X.drop o) := by
  have h1 : (X ++ ys).drop (o + sz + (T - o)) = [] := List.drop_of_length_le (by simp; omega)
  have h2 : ((X ++ ys).take (o + sz)).length = o + sz := by simp; omega
  rw [h1, List.append_nil]
  rw [List.take_append_of_le_length (by omega), List.take_take, show min o (o + sz) = o by omega, List.take_append_of_le_length (by omega)]
  rw [List.drop_left' h2]
theorem ends_mid (Z zs : List Value) (zl : List Nat) (N i : Nat) (hZ : ivals zl = Z) (hN : Z.length = N) (hz : zs.length = 1) (hi : i ≤ N) :
    ∃ A : List Value, A.length = i + 1 ∧ A.take i = ivals (zl.take i) ∧ (Z ++ zs).take (i + 1) ++ (Z.drop i ++ (Z ++ zs).drop (i + 1 + (N - i))) = A ++ ivals (raised 0 0 (zl.drop i)) := by
  refine ⟨(Z ++ zs).take (i + 1), by simp; omega, ?_, ?_⟩
  · rw [List.take_take, show min i (i + 1) = i by omega, List.take_append_of_le_length (by omega), ← hZ, ivals, ivals, List.map_take]
  · rw [List.drop_of_length_le (i := i + 1 + (N - i)) (by simp; omega), List.append_nil, ← hZ]
    congr 1
    simp [ivals, raised]

theorem ends_fin (A : List Value) (zl l : List Nat) (i o sz : Nat) (hA : A.length = i + 1) (hAt : A.take i = ivals (zl.take i)) :
    (A ++ ivals (l.map (· + sz))).set i (.int .i64 (((o + sz : Nat)) : Int)) = ivals (zl.take i ++ (o + sz) :: l.map (· + sz)) := by
  rw [List.set_append, if_pos (by omega)]
  have h1 : A.set i (.int .i64 (((o + sz : Nat)) : Int)) = A.take i ++ [Value.int .i64 (((o + sz : Nat)) : Int)] := by
    rw [List.set_eq_take_append_cons_drop, if_pos (by omega), List.drop_of_length_le (by omega)]
  rw [h1, hAt]
  simp [ivals]

set_option maxHeartbeats 3200000 in
set_option maxRecDepth 100000 in
theorem ins_raw {w : World} {p gt T ct ge N ce : Nat} {vk : Value} {X : List Value} {zl : List Nat} (h : Raw w p gt T ct ge N ce vk X (ivals zl)) (hzb : ∀ z ∈ zl, z ≤ 1000000) (i o : Nat) (hi : i ≤ N) (hN : N ≤ 10000) (hT : T ≤ 1000000) (hlo : o ≤ T)
    (h0 : i = 0 → o = 0) (hc : 0 < i → w.cell? ⟨ge, i - 1, none⟩ = some (.int .i64 o))
    (s : ByteArray) (hs0 : 0 < s.size) (hs1 : s.size ≤ 100) (K : Nat) (hK : w.cell? ⟨K, 0, none⟩ = some (.string s)) (hKp : K ≠ p) (hKt : K ≠ gt) (hKe : K ≠ ge) (h1 : ∀ u ∈ X, u.oneCell' = true) :
    Calls Yba.prog 22 #[.pointer (some ⟨p, 0, none⟩), .int .i64 i, .slice (some ⟨K, 0, none⟩) 1 1] w fun r w' => r = .returned (.tuple #[]) ∧ ∃ gt' ct' ge' ce', Raw w' p gt' (T + s.size) ct' ge' (N + 1) ce' vk (X.take o ++ (Lib.strCells s ++ X.drop o)) (ivals (zl.take i ++ (o + s.size) :: (zl.drop i).map (· + s.size))) ∧
      Keeps (fun b => b = p ∨ b = gt ∨ b = ge) w w' ∧ (gt' = gt ∨ w.heap.size ≤ gt') ∧ (ge' = ge ∨ w.heap.size ≤ ge') := by
  generalize hZ : ivals zl = Z at h
  have HZ := Hid.mk' hZ
  clear hZ
  obtain ⟨c0, c1, f0, f1⟩ := h.cells
  have hst := fun nq => start_raw (w := w.drewN nq) c1 hN hi h0 hc
  have hnc := own_cap h.txt
  have hmx : ct ≤ 9223372036854775807 ∧ ce ≤ 9223372036854775807 := own_max2 h.txt h.ens
  go_enter Yba.func22, Yba.ntmps22
  go_wp2
  go_loop [6, 8, 17] (fun z _ k => ∃ m : Nat, m ≤ 1 ∧ k = .int .i64 m ∧ z = .int .i64 ((m * s.size : Nat) : Int)) (fun _ _ k => 1 - (intOf k).toNat)
  case atStart => exact ⟨0, by omega, rfl, by simp⟩
  case round =>
    obtain ⟨m, hm, rfl, rfl⟩ := hrel
    by_cases hm0 : m = 0
    · subst hm0
      go_wp2
      go_round
      case rel => exact ⟨1, by omega, rfl, by simp⟩
      case measure => simp [intOf]
    · obtain rfl : m = 1 := by omega
      go_wp2
      go_quiet ((go_at_call 33; exact Calls.quiet_of_same (hst _)))
      clear hst
      go_wp2_with fail
      refine (grow37_any gt T ct s.size X _ ((Keeps.refl (fun _ => False) w).drewN _ |>.own h.txt (fun _ _ h => h)) hs0 (by omega) hmx.1).mono ?_
      rintro r w1 ⟨gt', ct', rfl, hcap1, hmx1, hA1⟩
      obtain ⟨ys, hyl, hoy⟩ := own_more hA1.own s.size hcap1
      have hpl : p < w.heap.size := (Array.getElem?_eq_some_iff.1 h.blk).1
      have hk1 : Keeps (fun b => b = gt) w w1 := ((Keeps.refl (fun b => b = gt) w).drewN _).trans hA1.keeps (fun b _ hb => by simp [Value.ownBlock] at hb; omega)
      have hm1 : gt' = gt ∨ w.heap.size ≤ gt' := by
        rcases hA1.moved gt' rfl with hx | hx
        · simp [Value.ownBlock] at hx; omega
        · exact .inr hx
      have R2 := h.store0 hk1 hoy hm1
      have hK1 := hk1.cells hKt hK
      have hK2 : (w1.setCell ⟨p, 0, none⟩ (.slice (some ⟨gt', 0, none⟩) (T + s.size) ct')).cell? ⟨K, 0, none⟩ = some (.string s) := ((Keeps.refl (fun b => b = p) w1).setCell (p := ⟨p, 0, none⟩) (fun _ => rfl) _).cells hKp hK1
      have hF2 : Keeps (fun b => b = p ∨ b = gt) w (w1.setCell ⟨p, 0, none⟩ (.slice (some ⟨gt', 0, none⟩) (T + s.size) ct')) := (hk1.mono (fun _ _ h => .inr h)).setCell (p := ⟨p, 0, none⟩) (fun _ => .inl rfl) _
      have hKl : K < w.heap.size := lt_of_cell hK
      have hKt' : K ≠ gt' := by omega
      have d0 : w1.cell? ⟨p, 0, none⟩ = some (.slice (some ⟨gt, 0, none⟩) T ct) := hk1.cells h.pt c0
      have d1 : w1.frozen? ⟨p, 0, none⟩ = false := by rw [← f0]; exact World.frozen?_of_block (hk1.block p hpl h.pt)
      have hel := (h.ens.lt ge rfl).2
      clear hA1 hk1 hoy hK1 c0 c1 f0 f1
      go_upto_region 8 with fail
      generalize (w1.setCell ⟨p, 0, none⟩ (.slice (some ⟨gt', 0, none⟩) (T + s.size) ct')) = w2 at *
      clear d0 d1
      obtain ⟨c0, c1, f0, f1⟩ := R2.cells
      have c0d : w2.drew.cell? ⟨p, 0, none⟩ = some (.slice (some ⟨gt', 0, none⟩) (T + s.size) ct') := c0
      have hXl : X.length = T := by have := h.txt.1; omega
      have hXd : Hid (X.drop o = ((X ++ ys).drop o).take (T - o)) := by
        unfold Hid; rw [List.drop_append_of_le_length (by omega), List.take_append_of_le_length (by simp; omega), List.take_of_length_le (by simp; omega)]
      have h1X : ∀ u ∈ X.drop o, u.oneCell' = true := fun u hu => h1 u (List.mem_of_mem_drop hu)
      have b1 : (0 : Int) ≤ (o : Int) := by omega
      have b2 : (o : Int) ≤ (T : Int) := by omega
      have b3 : (0 : Int) ≤ (o : Int) + (s.size : Int) := by omega
      have b6 : IntKind.i64.wrap ((o : Int) + (s.size : Int)) = (o : Int) + (s.size : Int) := by rw [IntKind.wrap_i64]; omega
      have b5 : ((o : Int) + (s.size : Int)).toNat = o + s.size := by omega
      have b4 : (T : Int) ≤ (ct' : Int) := by omega
      have R2d := R2.keep ((Keeps.refl (fun _ => False) w2).drew) (fun h => h) (fun h => h) (fun h => h)
      go_cut [] from 47 to 62 (fun wc => Raw wc p gt' (T + s.size) ct' ge N ce vk ((X ++ ys).take (o + s.size) ++ (X.drop o ++ (X ++ ys).drop (o + s.size + (T - o)))) Z ∧ wc.cell? ⟨K, 0, none⟩ = some (.string s) ∧ Keeps (fun b => b = p ∨ b = gt) w wc)
      case first =>
        go_region_held3 (fun w' => w'.cell? ⟨p, 0, none⟩ = some (.slice (some ⟨gt', 0, none⟩) (T + s.size) ct')) (first | exact c0d | assumption) ((refine step_copy_in rfl (.tmp 54) (.tmp 61) 25 25 rfl 5 Yba.underlying25 Yba.size5 gt' (T + s.size) ct' (X ++ ys) R2d.txt _ _ _ (o + s.size) (T - o) _ _ _ rfl rfl (nmin (by omega)) (by intro hne; rw [if_neg (by omega)]) (X.drop o) (src_mid R2d.txt o (T - o) _ _ (X.drop o) (by omega) hXd.out h1X (by intro hne; rw [if_neg (by omega)])) (by omega) ?_; intro w3 ho3 hk3; have c03 := hk3.cells (b := p) R2.pt c0d))
        have R3 := R2.row0 ((Keeps.refl (fun b => b = gt') w2).drew.trans hk3 (fun _ _ h => h)) ho3
        have hK3 : w3.cell? ⟨K, 0, none⟩ = some (.string s) := hk3.cells hKt' hK2
        have hF3 : Keeps (fun b => b = p ∨ b = gt) w w3 := hF2.trans ((Keeps.refl (fun b => b = gt') w2).drew.trans hk3 (fun _ _ h => h)) (fun b hb h => by omega)
        go_step
        go_step
        go_meet
        case rel => exact ⟨R3, hK3, hF3⟩
      case rest =>
        obtain ⟨R3, hK3, hF3⟩ := hcut
        clear R2 R2d hK2 hF2 c0 c1 f0 f1 c0d hXd
        obtain ⟨c0, c1, f0, f1⟩ := R3.cells
        go_wp2_with fail
        refine (grow38_any ge N ce 1 Z wc R3.ens (by omega) (by omega) hmx.2).mono ?_
        rintro r w4 ⟨ge', ce', rfl, hcap4, hmx4, hA4⟩
        obtain ⟨zs, hzl, hoz⟩ := own_more hA4.own 1 hcap4
        have hk4 : Keeps (fun b => b = ge) wc w4 := hA4.keeps.mono (fun b _ hb => by simp [Value.ownBlock] at hb; omega)
        have hsw : w.heap.size ≤ wc.heap.size := hF3.size
        have hm4 : ge' = ge ∨ wc.heap.size ≤ ge' := by
          rcases hA4.moved ge' rfl with hx | hx
          · simp [Value.ownBlock] at hx; omega
          · exact .inr hx
        have R4 := R3.store1 hk4 hoz hm4
        have hK4 := hk4.cells hKe hK3
        have hK5 : (w4.setCell ⟨p, 1, none⟩ (.slice (some ⟨ge', 0, none⟩) (N + 1) ce')).cell? ⟨K, 0, none⟩ = some (.string s) := ((Keeps.refl (fun b => b = p) w4).setCell (p := ⟨p, 1, none⟩) (fun _ => rfl) _).cells hKp hK4
        have hF5 : Keeps (fun b => b = p ∨ b = gt ∨ b = ge) w (w4.setCell ⟨p, 1, none⟩ (.slice (some ⟨ge', 0, none⟩) (N + 1) ce')) := ((hF3.mono (fun b _ h => by omega)).trans hk4 (fun b _ h => by omega)).setCell (p := ⟨p, 1, none⟩) (fun _ => .inl rfl) _
        have hpc : p < wc.heap.size := by omega
        have d0 : w4.cell? ⟨p, 1, none⟩ = some (.slice (some ⟨ge, 0, none⟩) N ce) := hk4.cells R3.pe c1
        have d1 : w4.frozen? ⟨p, 1, none⟩ = false := by rw [← f1]; exact World.frozen?_of_block (hk4.block p hpc R3.pe)
        have hm5 : ge' = ge ∨ w.heap.size ≤ ge' := by omega
        have hKe' : K ≠ ge' := by omega
        clear hA4 hk4 hoz hK4 c0 c1 f0 f1 hK3 hF3 R3
        go_upto_region 11 with fail
        generalize (w4.setCell ⟨p, 1, none⟩ (.slice (some ⟨ge', 0, none⟩) (N + 1) ce')) = w5 at *
        clear d0 d1
        obtain ⟨c0, c1, f0, f1⟩ := R4.cells
        have c1d : w5.drew.cell? ⟨p, 1, none⟩ = some (.slice (some ⟨ge', 0, none⟩) (N + 1) ce') := c1
        have hZl : Z.length = N := by have := h.ens.1; omega
        have hZd : Hid (Z.drop i = ((Z ++ zs).drop i).take (N - i)) := by
          unfold Hid; rw [List.drop_append_of_le_length (by omega), List.take_append_of_le_length (by simp; omega), List.take_of_length_le (by simp; omega)]
        have h1Z : ∀ u ∈ Z.drop i, u.oneCell' = true := fun u hu => ivals_one zl u (by rw [HZ.out]; exact List.mem_of_mem_drop hu)
        have e1 : (0 : Int) ≤ (i : Int) := by omega
        have e2 : (i : Int) ≤ (N : Int) := by omega
        have e3 : (0 : Int) ≤ (i : Int) + 1 := by omega
        have e6 : IntKind.i64.wrap ((i : Int) + 1) = (i : Int) + 1 := by rw [IntKind.wrap_i64]; omega
        have e5 : ((i : Int) + 1).toNat = i + 1 := by omega
        have e4 : (N : Int) ≤ (ce' : Int) := by omega
        have R4d := R4.keep ((Keeps.refl (fun _ => False) w5).drew) (fun h => h) (fun h => h) (fun h => h)
        go_cut [] from 83 to 99 (fun wd => Raw wd p gt' (T + s.size) ct' ge' (N + 1) ce' vk ((X ++ ys).take (o + s.size) ++ (X.drop o ++ (X ++ ys).drop (o + s.size + (T - o)))) ((Z ++ zs).take (i + 1) ++ (Z.drop i ++ (Z ++ zs).drop (i + 1 + (N - i)))) ∧ wd.cell? ⟨K, 0, none⟩ = some (.string s) ∧ Keeps (fun b => b = p ∨ b = gt ∨ b = ge) w wd)
        case first =>
          go_region_held3 (fun w' => w'.cell? ⟨p, 1, none⟩ = some (.slice (some ⟨ge', 0, none⟩) (N + 1) ce')) (first | exact c1d | assumption) ((refine step_copy_in rfl (.tmp 91) (.tmp 98) 26 26 rfl 3 Yba.underlying26 Yba.size3 ge' (N + 1) ce' (Z ++ zs) R4d.ens _ _ _ (i + 1) (N - i) _ _ _ rfl rfl (nmin (by omega)) (by intro hne; rw [if_neg (by omega)]) (Z.drop i) (src_mid R4d.ens i (N - i) _ _ (Z.drop i) (by omega) hZd.out h1Z (by intro hne; rw [if_neg (by omega)])) (by omega) ?_; intro w6 ho6 hk6; have c16 := hk6.cells (b := p) R4.pe c1d))
          have R6 := R4.row1 ((Keeps.refl (fun b => b = ge') w5).drew.trans hk6 (fun _ _ h => h)) ho6
          have hK6 : w6.cell? ⟨K, 0, none⟩ = some (.string s) := hk6.cells hKe' hK5
          have hF6 : Keeps (fun b => b = p ∨ b = gt ∨ b = ge) w w6 := hF5.trans ((Keeps.refl (fun b => b = ge') w5).drew.trans hk6 (fun _ _ h => h)) (fun b hb h => by omega)
          go_step
          go_step
          go_meet
          case rel => exact ⟨R6, hK6, hF6⟩
        case rest =>
          obtain ⟨R6, hK6, hF6⟩ := hcut
          obtain ⟨A, hAl, hAt, hAe⟩ := ends_mid Z zs zl N i HZ.out hZl hzl hi
          rw [hAe, show raised 0 0 (zl.drop i) = raised s.size 0 (zl.drop i) from by simp [raised]] at R6
          have HY := Hid.mk' (text_fin X ys (Lib.strCells s) T s.size o hXl hyl (Lib.strCells_length s) hlo)
          generalize (X ++ ys).take (o + s.size) ++ (X.drop o ++ (X ++ ys).drop (o + s.size + (T - o))) = Y at *
          have HAt := Hid.mk' hAt
          have hgeS : ge' < w.heap.size → ge' = p ∨ ge' = gt ∨ ge' = ge := by omega
          have hll : (zl.drop i).length = N - i := by have := congrArg List.length HZ.out; simp [ivals] at this; simp; omega
          have hlb : ∀ z ∈ zl.drop i, z ≤ 1000000 := fun z hz => hzb z (List.mem_of_mem_drop hz)
          generalize hl : zl.drop i = l at *
          have HL := Hid.mk' hl
          clear R4 R4d hK5 hF5 c0 c1 f0 f1 c1d hZd hAe hAt hl h1Z h1X h
          go_wp2
          go_loopw [12] (fun j wr => ∃ c : Nat, c ≤ N - i ∧ j = .int .i64 ((i + 1 + c : Nat) : Int) ∧ Raw wr p gt' (T + s.size) ct' ge' (N + 1) ce' vk Y (A ++ ivals (raised s.size c l)) ∧ wr.cell? ⟨K, 0, none⟩ = some (.string s) ∧ Keeps (fun b => b = p ∨ b = gt ∨ b = ge) w wr) (fun j _ => N + 1 - (intOf j).toNat)
          case atStart => exact ⟨0, by omega, by go_num, R6, hK6, hF6⟩
          case round =>
            obtain ⟨c, hc2, rfl, R, hKr, hFr⟩ := hrel
            clear R6 hK6 hF6
            obtain ⟨c0, c1, f0, f1⟩ := R.cells
            by_cases hlt : c < N - i
            · have hcl : c < l.length := by omega
              have hb := hlb l[c] (by simp)
              have g1 : wr.cell? ⟨ge', i + 1 + c, none⟩ = some (.int .i64 ((l[c] : Nat) : Int)) := by
                rw [R.ens.cellAt (i + 1 + c) (by omega), List.getElem?_append_right (by omega), show i + 1 + c - A.length = c by omega, raised_get _ _ _ hcl]
              have g2 := R.ens.frozenAt (i + 1 + c)
              have R' := R.row1 (Keeps.of_grown (R.ens.stored (i + 1 + c) (.int .i64 (((l[c] + s.size : Nat)) : Int))).2 (fun k h => by simpa using h.symm)) (R.ens.stored (i + 1 + c) (.int .i64 (((l[c] + s.size : Nat)) : Int))).1
              rw [List.set_append, if_neg (by omega), show i + 1 + c - A.length = c by omega, raised_set _ _ _ hcl] at R'
              have hK' := ((Keeps.refl (fun b => b = ge') wr).setCell (p := ⟨ge', i + 1 + c, none⟩) (fun _ => rfl) (.int .i64 (((l[c] + s.size : Nat)) : Int))).cells hKe' hKr
              have hF' := hFr.setCell (p := ⟨ge', i + 1 + c, none⟩) hgeS (.int .i64 (((l[c] + s.size : Nat)) : Int))
              generalize l[c] = z at *
              rw [Int.natCast_add z s.size] at R' hK' hF'
              go_wp2
              go_roundw
              case rel => exact ⟨c + 1, by omega, by go_num, R', hK', hF'⟩
              case measure => simp [intOf]; omega
            · obtain rfl : c = N - i := by omega
              rw [raised_all _ _ _ (by omega)] at R
              clear hlb
              go_wp2
              go_loopw [9, 13, 14, 125] (fun va _ _ k wr => (k = .int .i64 0 ∧ va = .int .i64 o ∧ Raw wr p gt' (T + s.size) ct' ge' (N + 1) ce' vk Y (A ++ ivals (l.map (· + s.size))) ∧ wr.cell? ⟨K, 0, none⟩ = some (.string s) ∧ Keeps (fun b => b = p ∨ b = gt ∨ b = ge) w wr) ∨
                  (k = .int .i64 1 ∧ Raw wr p gt' (T + s.size) ct' ge' (N + 1) ce' vk (X.take o ++ (Lib.strCells s ++ X.drop o)) (ivals (zl.take i ++ (o + s.size) :: l.map (· + s.size))) ∧ Keeps (fun b => b = p ∨ b = gt ∨ b = ge) w wr)) (fun _ _ _ k _ => 1 - (intOf k).toNat)
              case atStart => exact .inl ⟨rfl, rfl, R, hKr, hFr⟩
              case round =>
                clear R hKr hFr c0 c1 f0 f1
                rcases hrel with ⟨rfl, rfl, R, hKr, hFr⟩ | ⟨rfl, R, hFr⟩
                · obtain ⟨c0, c1, f0, f1⟩ := R.cells
                  have g2 := R.ens.frozenAt i
                  have g1 : ∃ q, wr.cell? ⟨ge', i, none⟩ = some q := by
                    rw [R.ens.cellAt i (by omega), List.getElem?_append_left (by omega)]
                    exact ⟨_, List.getElem?_eq_getElem (by omega)⟩
                  obtain ⟨q, g1⟩ := g1
                  have hco : ¬ ct' = o := by omega
                  go_wp2_with (refine wpList_copy_str rfl (.tmp 136) (.tmp 137) 25 9 rfl 5 Yba.underlying25 Yba.size5 gt' (T + s.size) ct' Y R.txt _ _ o s rfl rfl (by omega) (by omega) ?_; intro w9 ho9 hk9; have k1 := hk9.cells (b := p) R.pt c1; have k2 := hk9.cells (b := ge') (fun h => R.te h.symm) g1; have R9 := R.row0 hk9 ho9; have k3 := R9.ens.frozenAt i)
                  have R10 := R9.row1 (Keeps.of_grown (R9.ens.stored i (.int .i64 (((o + s.size : Nat)) : Int))).2 (fun k h => by simpa using h.symm)) (R9.ens.stored i (.int .i64 (((o + s.size : Nat)) : Int))).1
                  rw [HY.out, ends_fin A zl l i o s.size hAl HAt.out, Int.natCast_add o s.size] at R10
                  have hF10 := (hFr.trans hk9 (fun b hb h => by omega)).setCell (p := ⟨ge', i, none⟩) hgeS (.int .i64 ((o : Int) + (s.size : Int)))
                  go_roundw
                  case rel =>
                    (repeat apply Exists.intro)
                    exact ⟨.inr ⟨rfl, R10, hF10⟩, rfl⟩
                  case measure => simp [intOf]
                · go_wp2
                  go_end0
                  exact ⟨rfl, gt', ct', ge', ce', by rw [HL.out]; exact R, hFr, hm1, hm5⟩
end Go.Proofs.Ybulkcday
