/-
  Memory that the call itself makes: which blocks may turn ('Keeps'), an append by what it leaves ('App'). Of no program.
-/
import Derived.WalkKit
import Derived.WalkLawsBesides
import Derived.WalkSpells
import Derived.Lib.AppendStr
import Derived.Lib.AppendZeros
import Derived.Lib.SliceRun
import Derived.Laws.CopyOwn
import Derived.Deep.RegionHeld3
namespace Go.Proofs.Ybulkcdkc
open Go.RowKit

/-- Of the blocks of w only those in S may have turned; new ones may have come. -/
structure Keeps (S : Nat → Prop) (w w' : World) : Prop where
  os : w'.os = w.os
  tape : w'.tape = w.tape
  output : w'.output = w.output
  size : w.heap.size ≤ w'.heap.size
  block : ∀ k, k < w.heap.size → ¬ S k → w'.heap[k]? = w.heap[k]?

theorem Keeps.refl (S : Nat → Prop) (w : World) : Keeps S w w := ⟨rfl, rfl, rfl, Nat.le_refl _, fun _ _ _ => rfl⟩
theorem Keeps.trans {S T : Nat → Prop} {a b c : World} (h : Keeps S a b) (k : Keeps T b c) (hT : ∀ i, i < a.heap.size → T i → S i) : Keeps S a c :=
  ⟨k.os.trans h.os, k.tape.trans h.tape, k.output.trans h.output, Nat.le_trans h.size k.size, fun i hi hn => (k.block i (Nat.lt_of_lt_of_le hi h.size) (fun ht => hn (hT i hi ht))).trans (h.block i hi hn)⟩
theorem Keeps.mono {S T : Nat → Prop} {a b : World} (h : Keeps S a b) (hT : ∀ i, i < a.heap.size → S i → T i) : Keeps T a b :=
  ⟨h.os, h.tape, h.output, h.size, fun i hi hn => h.block i hi (fun hs => hn (hT i hi hs))⟩
theorem Keeps.alloc {S : Nat → Prop} {a w : World} (h : Keeps S a w) (o : Obj) : Keeps S a (w.alloc o) :=
  h.trans (T := fun _ => False) ⟨rfl, rfl, rfl, by simp, fun k hk _ => Below.heap_alloc _ _ _ hk⟩ (fun _ _ h => h.elim)
theorem Keeps.drew {S : Nat → Prop} {a w : World} (h : Keeps S a w) : Keeps S a w.drew := ⟨h.os, h.tape, h.output, h.size, h.block⟩
theorem Keeps.drewN {S : Nat → Prop} {a w : World} (h : Keeps S a w) (n : Nat) : Keeps S a (w.drewN n) := ⟨h.os, h.tape, h.output, h.size, h.block⟩
theorem Keeps.setCell {S : Nat → Prop} {a w : World} (h : Keeps S a w) {p : Addr} (hp : p.block < a.heap.size → S p.block) (u : Value) : Keeps S a (w.setCell p u) :=
  h.trans (T := fun k => k = p.block) ⟨rfl, rfl, rfl, by simp [World.setCell], fun k _ hn => Below.heap_setCell _ _ _ _ hn⟩ (fun _ hi e => e ▸ hp (e ▸ hi))
theorem Keeps.below {S : Nat → Prop} {w w' : World} {B : Nat} (h : Keeps S w w') (hB : B ≤ w.heap.size) (hS : ∀ k, S k → B ≤ k) : Below B w w' :=
  ⟨h.os, h.tape, h.output, h.size, fun k hk => h.block k (by omega) (fun hs => by have := hS k hs; omega)⟩
theorem Keeps.of_below {S : Nat → Prop} {w w' : World} {B : Nat} (h : Below B w w') (hS : ∀ k, B ≤ k → k < w.heap.size → S k) : Keeps S w w' :=
  ⟨h.os, h.tape, h.output, h.size, fun k hk hn => h.block k (Nat.lt_of_not_le fun hb => hn (hS k hb hk))⟩
theorem Keeps.of_grown {S : Nat → Prop} {w w' : World} {row : Option Nat} (h : w.grownBy w' row) (hS : ∀ k, row = some k → S k) : Keeps S w w' :=
  ⟨h.os, h.tape, h.output, h.size, fun k hk hn => h.block k hk (fun e => hn (hS k e.symm))⟩
theorem Keeps.cell {S : Nat → Prop} {w w' : World} (h : Keeps S w w') {p : Addr} (hp : p.block < w.heap.size) (hs : ¬ S p.block) : w'.cell? p = w.cell? p := World.cell?_of_block (w := w) (h.block p.block hp hs)
theorem Keeps.cells {S : Nat → Prop} {w w' : World} (h : Keeps S w w') {b o : Nat} {v : Value} (hs : ¬ S b) (hc : w.cell? ⟨b, o, none⟩ = some v) : w'.cell? ⟨b, o, none⟩ = some v :=
  (h.cell (p := ⟨b, o, none⟩) (World.block_lt_of_cell? w ⟨b, o, none⟩ hc) hs).trans hc
theorem Keeps.own {S : Nat → Prop} {w w' : World} (h : Keeps S w w') {base : Nat} {e : TypeId} {size : Nat} {v : Value} {n : Nat} {xs : List Value} (ho : w.ownsRow base e size v n xs) (hs : ∀ g, v.ownBlock = some g → ¬ S g) : w'.ownsRow base e size v n xs := by
  refine ⟨ho.1, ?_⟩
  rcases ho.2 with hn | ⟨g, cap, cur, rfl, hb, hgg, rest⟩
  · exact .inl hn
  · refine .inr ⟨g, cap, cur, rfl, hb, ?_, rest⟩
    rw [h.block g (Array.getElem?_eq_some_iff.1 hgg).1 (hs g rfl)]
    exact hgg

/-- A source of an append: m elements, the cells 'news'. -/
structure Src (w : World) (size : Nat) (x : Value) (m : Nat) (news : List Value) : Prop where
  len : news.length = m * size
  one : ∀ u ∈ news, u.oneCell' = true
  at_ : ∃ ao c, x = .slice ao m c ∧ (ao = none → m = 0) ∧ ∀ a, ao = some a → ∀ j u, news[j]? = some u → w.cell? (a.add j) = some u

/-- What an append leaves. -/
structure App (e : TypeId) (size : Nat) (w : World) (v : Value) (n : Nat) (xs : List Value) (v' : Value) (w' : World) (n' : Nat) (xs' : List Value) : Prop where
  own : w'.ownsRow 0 e size v' n' xs'
  keeps : Keeps (fun k => v.ownBlock = some k) w w'
  moved : ∀ g, v'.ownBlock = some g → v.ownBlock = some g ∨ w.heap.size ≤ g

theorem App.trans {e : TypeId} {size : Nat} {w w1 w2 : World} {v v1 v2 : Value} {n n1 n2 : Nat} {xs x1 x2 : List Value} (h : App e size w v n xs v1 w1 n1 x1) (k : App e size w1 v1 n1 x1 v2 w2 n2 x2) : App e size w v n xs v2 w2 n2 x2 :=
  ⟨k.own, h.keeps.trans k.keeps (fun i hi hs => by rcases h.moved i hs with e | e; exact e; omega),
   fun g hg => by
     rcases k.moved g hg with e | e
     · exact h.moved g e
     · exact .inr (Nat.le_trans h.keeps.size e)⟩

section
variable {P : Program} (w : World)

theorem run_append_app (t ty e : TypeId) (i : TypeInfo) (z : Value) (size bytes : Nat) (ht : P.underlying t = some (.slice e)) (hi : P.info? e = some i) (hz : i.zero = some z)
    (hsize : i.size = size) (hby : i.bytes = bytes) (hzs : z.cells.size = size) (hsz : 0 < size)
    (v : Value) (n : Nat) (xs : List Value) (hown : w.ownsRow 0 e size v n xs)
    (x : Value) (m : Nat) (news : List Value) (hsrc : Src w size x m news)
    (h63 : n + m ≤ maxLen) (hbytes : (n + m) * bytes ≤ 140737488355328) :
    ∃ v' w', (Builtin.append_ #[t, t] ty #[v, x]).run P w = .ok v' w' ∧ App e size w v n xs v' w' (n + m) (xs ++ news) ∧ (v' = .slice none 0 0 ↔ v = .slice none 0 0 ∧ m = 0) := by
  subst hsize
  subst hby
  obtain ⟨hl, h1, ao, c, rfl, hao, hcell⟩ := hsrc
  have hsmall : n + m ≤ 9223372036854775807 := by simp only [maxLen] at h63; omega
  have hlen : (xs ++ news).length = (n + m) * i.size := by rw [List.length_append, hown.1, hl, Nat.add_mul]
  cases ao with
  | none =>
    have hm : m = 0 := hao rfl
    subst hm
    have hn : news = [] := List.eq_nil_of_length_eq_zero (by simpa using hl)
    subst hn
    refine ⟨v, w, ?_, ⟨by simpa using hown, Keeps.refl _ _, fun g hg => .inl hg⟩, by simp⟩
    rcases hown.2 with ⟨rfl, rfl⟩ | ⟨g, cap, cur, rfl, hbg, hg, hnc, hcm, hcs, htake⟩
    · simp [Builtin.append_, run_underlying ht, sizeOf, typeInfo, hi, Builtin.lenOf, Builtin.firstCells]
    · simp [Builtin.append_, run_underlying ht, sizeOf, typeInfo, hi, Builtin.lenOf, Builtin.firstCells, hnc, storeCells]
  | some a =>
    have hnews := hcell a rfl
    have grown : ∀ (old : Nat), old < n + m → ∀ v : Value,
        App e i.size w v n xs (.slice (some ⟨w.heap.size, 0, none⟩) (n + m) (grownCap w (n + m) old e))
          (w.drew.alloc (.cells (xs.toArray ++ news.toArray ++ Builtin.zeroCells z.cells (grownCap w (n + m) old e - (n + m))) e)) (n + m) (xs ++ news) := by
      intro old ho v
      have hge := grownCap_ge w (n + m) old e
      have hcm : grownCap w (n + m) old e ≤ maxLen := grownCap_le_maxLen w (n + m) old e h63
      refine ⟨⟨hlen, .inr ⟨w.heap.size, _, _, rfl, Nat.zero_le _, heap_alloc_new w.drew _, hge, hcm, ?_, ?_⟩⟩, ⟨rfl, rfl, rfl, by simp, fun k hk _ => Below.heap_alloc w.drew _ k hk⟩, fun g hg => .inr (by simp [Value.ownBlock] at hg; omega)⟩
      · simp only [Array.size_append, List.size_toArray, size_zeroCells, hzs, hown.1, hl, ← Nat.add_mul]
        congr 1
        omega
      · simp only [Array.toList_append, List.append_assoc]
        rw [← List.append_assoc, ← hlen]
        exact List.take_left
    rcases hown.2 with ⟨rfl, rfl⟩ | ⟨g, cap, cur, rfl, hbg, hg, hnc, hcm, hcs, htake⟩
    · have hx : xs = [] := List.eq_nil_of_length_eq_zero (by simpa using hown.1)
      subst hx
      by_cases hm : m = 0
      · subst hm
        have hn : news = [] := List.eq_nil_of_length_eq_zero (by simpa using hl)
        subst hn
        refine ⟨.slice none 0 0, w, ?_, ⟨World.ownsRow_nil w 0 e i.size, Keeps.refl _ _, fun g hg => .inl hg⟩, by simp⟩
        simp [Builtin.append_, run_underlying ht, sizeOf, typeInfo, hi, Builtin.lenOf, Builtin.firstCells, loadCells, loadCellsFrom]
      · have hr := run_append_nil (P := P) w t ty e i z ht hi hz a m c news hl hnews (by omega) (by omega) (by have hb := hbytes; simp only [Nat.zero_add] at hb; omega)
        have hgr := grown 0 (by omega) (.slice none 0 0)
        simp only [Nat.zero_add, List.nil_append, Array.empty_append] at hgr ⊢
        exact ⟨_, _, hr, hgr, by simp [hm]⟩
    · by_cases hroom : n + m ≤ cap
      · have hfit : n * i.size + news.length ≤ cur.size := by rw [hl, hcs, ← Nat.add_mul]; exact Nat.mul_le_mul_right _ hroom
        have hr := run_append_room (P := P) w t ty e i ht hi g n cap cur hg a m c news hl hnews h1 hroom hfit
        refine ⟨_, _, hr, ⟨⟨hlen, .inr ⟨g, cap, _, rfl, hbg, setRow_heap w g cur _ e _ hg, hroom, hcm, ?_, ?_⟩⟩, ⟨rfl, rfl, rfl, by simp, fun k _ hk => setRow_other w g k _ (fun e => hk (by simp [Value.ownBlock, e]))⟩, fun g' hg' => .inl hg'⟩, by simp⟩
        · simp only [List.size_toArray, List.length_append, List.length_take, List.length_drop, Array.length_toList]
          omega
        · rw [htake, ← hlen]
          exact List.take_left
      · have holds : ∀ j u, xs[j]? = some u → w.cell? ((⟨g, 0, none⟩ : Addr).add j) = some u := hown.cells (g := g) rfl
        have hr := run_append_grow (P := P) w t ty e i z ht hi hz ⟨g, 0, none⟩ n cap xs hown.1 holds a m c news hl hnews (by omega) (by omega) (growslice_fits (by omega) hbytes)
        exact ⟨_, _, hr, grown cap (by omega) _, by simp⟩

theorem run_append_app_string (t u ty e : TypeId) (i : TypeInfo) (ht : P.underlying t = some (.slice e)) (hu : P.underlying u = some .string) (hi : P.info? e = some i) (hz : i.zero = some (.int .u8 0))
    (hsize : i.size = 1) (hby : i.bytes = 1)
    (v : Value) (n : Nat) (xs : List Value) (hown : w.ownsRow 0 e 1 v n xs) (s : ByteArray)
    (h63 : n + s.size ≤ maxLen) (hbytes : n + s.size ≤ 140737488355328) :
    ∃ v' w', (Builtin.append_ #[t, u] ty #[v, .string s]).run P w = .ok v' w' ∧ App e 1 w v n xs v' w' (n + s.size) (xs ++ Lib.strCells s) ∧ (v' = .slice none 0 0 ↔ v = .slice none 0 0 ∧ s.size = 0) := by
  have hsmall : n + s.size ≤ 9223372036854775807 := by simp only [maxLen] at h63; omega
  have hxl : xs.length = n := by simpa using hown.1
  have hlen : (xs ++ Lib.strCells s).length = (n + s.size) * 1 := by rw [List.length_append, hxl, Lib.strCells_length, Nat.mul_one]
  have grown : ∀ (old : Nat), old < n + s.size → ∀ v : Value,
      App e 1 w v n xs (.slice (some ⟨w.heap.size, 0, none⟩) (n + s.size) (grownCap w (n + s.size) old e))
        (w.drew.alloc (.cells (xs.toArray ++ (Lib.strCells s).toArray ++ Builtin.zeroCells (Value.int .u8 0).cells (grownCap w (n + s.size) old e - (n + s.size))) e)) (n + s.size) (xs ++ Lib.strCells s) := by
    intro old ho v
    have hge := grownCap_ge w (n + s.size) old e
    have hcm : grownCap w (n + s.size) old e ≤ maxLen := grownCap_le_maxLen w (n + s.size) old e h63
    refine ⟨⟨hlen, .inr ⟨w.heap.size, _, _, rfl, Nat.zero_le _, heap_alloc_new w.drew _, hge, hcm, ?_, ?_⟩⟩, ⟨rfl, rfl, rfl, by simp, fun k hk _ => Below.heap_alloc w.drew _ k hk⟩, fun g hg => .inr (by simp [Value.ownBlock] at hg; omega)⟩
    · have hz1 : (Value.int IntKind.u8 0).cells.size = 1 := rfl
      simp only [Array.size_append, List.size_toArray, size_zeroCells, hz1, hxl, Lib.strCells_length]
      omega
    · simp only [Array.toList_append, List.append_assoc]
      rw [← List.append_assoc, ← hlen]
      exact List.take_left
  rcases hown.2 with ⟨rfl, rfl⟩ | ⟨g, cap, cur, rfl, hbg, hg, hnc, hcm, hcs, htake⟩
  · have hx : xs = [] := List.eq_nil_of_length_eq_zero hxl
    subst hx
    by_cases hm : s.size = 0
    · have hn : Lib.strCells s = [] := List.eq_nil_of_length_eq_zero (by rw [Lib.strCells_length]; exact hm)
      refine ⟨.slice none 0 0, w, ?_, ⟨by rw [hm, hn]; exact World.ownsRow_nil w 0 e 1, Keeps.refl _ _, fun g hg => .inl hg⟩, by simp [hm]⟩
      have hf := Lib.run_firstCells_string (P := P) w 1 s
      rw [hm] at hf
      simp [Builtin.append_, run_underlying ht, run_underlying hu, sizeOf, typeInfo, hi, hsize, Builtin.lenOf, hm, hf]
    · have hr := run_append_nil_string (P := P) w t u ty e i (.int .u8 0) ht hu hi hz s (by omega) (by omega) (by rw [hby]; omega)
      have hgr := grown 0 (by omega) (.slice none 0 0)
      simp only [Nat.zero_add, List.nil_append, Array.empty_append] at hgr ⊢
      have e1 : (s.data.map fun b => Value.int .u8 b.toNat) = (Lib.strCells s).toArray := by
        apply Array.ext'
        simp [Lib.strCells]
      rw [e1] at hr
      exact ⟨_, _, hr, hgr, by simp [hm]⟩
  · by_cases hroom : n + s.size ≤ cap
    · have hcs' : cur.size = cap := by simpa using hcs
      have hr := Lib.run_append_room_string (P := P) w t u ty e i ht hu hi hsize g n cap cur hg s hroom (by omega)
      refine ⟨_, _, hr, ⟨⟨hlen, .inr ⟨g, cap, _, rfl, hbg, setRow_heap w g cur _ e _ hg, hroom, hcm, ?_, ?_⟩⟩, ⟨rfl, rfl, rfl, by simp, fun k _ hk => setRow_other w g k _ (fun e => hk (by simp [Value.ownBlock, e]))⟩, fun g' hg' => .inl hg'⟩, by simp⟩
      · simp only [List.size_toArray, List.length_append, List.length_take, List.length_drop, Array.length_toList, Lib.strCells_length]
        omega
      · have ht' : cur.toList.take n = xs := by simpa using htake
        rw [ht', ← hlen]
        exact List.take_left
    · have holds : ∀ j u, xs[j]? = some u → w.cell? ((⟨g, 0, none⟩ : Addr).add j) = some u := hown.cells (g := g) rfl
      have hr := Lib.run_append_grow_string (P := P) w t u ty e i (.int .u8 0) ht hu hi hz ⟨g, 0, none⟩ n cap xs (by rw [hsize]; simpa using hxl) holds s (by omega) (by omega) (by rw [hby]; exact growslice_fits (by omega) (by omega))
      exact ⟨_, _, hr, grown cap (by omega) _, by simp⟩

/-- The operation, for the walk. -/
theorem wpList_app {ops : Array Oper} {rest : List Oper} {o : Oper} {a : Act} {Q : Exit → Act → World → Prop} (hgd : o.guard = none) (s x : Operand) (t : TypeId)
    (ho : o.op = .call { callee := .builtin .append, args := #[s, x], argTypes := #[t, t] })
    (e : TypeId) (i : TypeInfo) (z : Value) (size bytes : Nat) (ht : P.underlying t = some (.slice e)) (hi : P.info? e = some i) (hz : i.zero = some z)
    (hsize : i.size = size) (hby : i.bytes = bytes) (hzs : z.cells.size = size) (hsz : 0 < size)
    (v : Value) (n : Nat) (xs : List Value) (hs : a.eval s = v) (hown : w.ownsRow 0 e size v n xs)
    (m : Nat) (news : List Value) (hsrc : Src w size (a.eval x) m news)
    (h63 : n + m ≤ maxLen) (hbytes : (n + m) * bytes ≤ 140737488355328)
    (h : ∀ v' w', App e size w v n xs v' w' (n + m) (xs ++ news) → (v' = .slice none 0 0 ↔ v = .slice none 0 0 ∧ m = 0) → wpList P ops Q rest (a.put o.dst v') w') : wpList P ops Q (o :: rest) a w := by
  refine wpList_plain hgd fun K hK => ?_
  obtain ⟨v', w', hr, h2, h3⟩ := run_append_app (P := P) w t o.type e i z size bytes ht hi hz hsize hby hzs hsz v n xs hown _ m news hsrc h63 hbytes
  unfold Oper.wp execOp
  simp only [ho, resolve, invoke, builtin, Sem.run_bind, Sem.run_pure, Result.andThen_ok, List.map_toArray, List.map_cons, List.map_nil, hs, hr]
  exact hK _ _ (h v' w' h2 h3)

theorem wpList_app_string {ops : Array Oper} {rest : List Oper} {o : Oper} {a : Act} {Q : Exit → Act → World → Prop} (hgd : o.guard = none) (sl x : Operand) (t u : TypeId)
    (ho : o.op = .call { callee := .builtin .append, args := #[sl, x], argTypes := #[t, u] })
    (e : TypeId) (i : TypeInfo) (ht : P.underlying t = some (.slice e)) (hu : P.underlying u = some .string) (hi : P.info? e = some i) (hz : i.zero = some (.int .u8 0))
    (hsize : i.size = 1) (hby : i.bytes = 1)
    (v : Value) (n : Nat) (xs : List Value) (hs : a.eval sl = v) (hown : w.ownsRow 0 e 1 v n xs) (s : ByteArray) (hx : a.eval x = .string s)
    (h63 : n + s.size ≤ maxLen) (hbytes : n + s.size ≤ 140737488355328)
    (h : ∀ v' w', App e 1 w v n xs v' w' (n + s.size) (xs ++ Lib.strCells s) → (v' = .slice none 0 0 ↔ v = .slice none 0 0 ∧ s.size = 0) → wpList P ops Q rest (a.put o.dst v') w') : wpList P ops Q (o :: rest) a w := by
  refine wpList_plain hgd fun K hK => ?_
  obtain ⟨v', w', hr, h2, h3⟩ := run_append_app_string (P := P) w t u o.type e i ht hu hi hz hsize hby v n xs hown s h63 hbytes
  unfold Oper.wp execOp
  simp only [ho, resolve, invoke, builtin, Sem.run_bind, Sem.run_pure, Result.andThen_ok, List.map_toArray, List.map_cons, List.map_nil, hs, hx, hr]
  exact hK _ _ (h v' w' h2 h3)
end

/-- The one element that 'append(s, x)' lays in a new block. -/
theorem Src.one_new (w : World) (u : Value) (t : TypeId) (h1 : u.oneCell' = true) : Src (w.alloc (.cells #[u] t)) 1 (.slice (some ⟨w.heap.size, 0, none⟩) 1 1) 1 [u] :=
  ⟨rfl, fun x hx => by simp at hx; subst hx; exact h1, some ⟨w.heap.size, 0, none⟩, 1, rfl, (fun h => by cases h), (fun a ha => by cases ha; exact cell_one_new _ _ _)⟩

theorem App.alloc {e : TypeId} {size : Nat} {w w' : World} {v v' : Value} {n n' : Nat} {xs xs' : List Value} {o : Obj} (h : App e size (w.alloc o) v n xs v' w' n' xs') : App e size w v n xs v' w' n' xs' :=
  ⟨h.own, (Keeps.refl _ _ |>.alloc o).trans h.keeps (fun _ _ h => h), fun g hg => by
    rcases h.moved g hg with e | e
    · exact .inl e
    · exact .inr (by simp at e; omega)⟩

theorem App.pre {e : TypeId} {size : Nat} {w w1 w' : World} {v v' : Value} {n n' : Nat} {xs xs' : List Value} (hk : Keeps (fun _ => False) w w1) (h : App e size w1 v n xs v' w' n' xs') : App e size w v n xs v' w' n' xs' :=
  ⟨h.own, (hk.mono (fun _ _ h => h.elim)).trans h.keeps (fun _ _ h => h), fun g hg => by
    rcases h.moved g hg with e | e
    · exact .inl e
    · exact .inr (Nat.le_trans hk.size e)⟩
theorem App.refl {e : TypeId} {size : Nat} {w : World} {v : Value} {n : Nat} {xs : List Value} (h : w.ownsRow 0 e size v n xs) : App e size w v n xs v w n xs := ⟨h, Keeps.refl _ _, fun _ hg => .inl hg⟩
theorem App.len {e : TypeId} {w w' : World} {v v' : Value} {n n' : Nat} {xs xs' : List Value} (h : App e 1 w v n xs v' w' n' xs') : n' = xs'.length := by
  have := h.own.1; omega
theorem App.norm {e : TypeId} {w w' : World} {v v' : Value} {n n' : Nat} {xs xs' : List Value} (h : App e 1 w v n xs v' w' n' xs') : App e 1 w v n xs v' w' xs'.length xs' := by
  have := h.len; subst this; exact h
theorem Keeps.none_below {w w1 : World} (h : Below w.heap.size w w1) : Keeps (fun _ => False) w w1 := ⟨h.os, h.tape, h.output, h.size, fun k hk _ => h.block k hk⟩
theorem lt_of_cell {w : World} {b o : Nat} {v : Value} (h : w.cell? ⟨b, o, none⟩ = some v) : b < w.heap.size := World.block_lt_of_cell? w ⟨b, o, none⟩ h
theorem Hid.mk' {p : Prop} (h : p) : Hid p := h

/-- An append as one step of a region that draws. -/
theorem step_app {P : Program} {ops : Array Oper} {o : Oper} {a : Act} {w : World} {K : Act → World → Prop} {Q : Exit → Act → World → Prop} {E : Prop} (hgd : o.guard = none) (s x : Operand) (t : TypeId)
    (ho : o.op = .call { callee := .builtin .append, args := #[s, x], argTypes := #[t, t] })
    (e : TypeId) (i : TypeInfo) (z : Value) (size bytes : Nat) (ht : P.underlying t = some (.slice e)) (hi : P.info? e = some i) (hz : i.zero = some z)
    (hsize : i.size = size) (hby : i.bytes = bytes) (hzs : z.cells.size = size) (hsz : 0 < size)
    (v : Value) (n : Nat) (xs : List Value) (hs : a.eval s = v) (hown : w.ownsRow 0 e size v n xs)
    (y : Value) (hy : a.eval x = y) (m : Nat) (news : List Value) (hsrc : Src w size y m news)
    (h63 : n + m ≤ maxLen) (hbytes : (n + m) * bytes ≤ 140737488355328)
    (h : ∀ v' w', App e size w v n xs v' w' (n + m) (xs ++ news) → (v' = .slice none 0 0 ↔ v = .slice none 0 0 ∧ m = 0) → K (a.put o.dst v') w') :
    if Region.wanted o (yielded ops a.tmps) = true then Oper.wp P o a w K Q else E := by
  have hw : Region.wanted o (yielded ops a.tmps) = true := by simp [Region.wanted, hgd]
  rw [if_pos hw]
  obtain ⟨v', w', hr, h2, h3⟩ := run_append_app (P := P) w t o.type e i z size bytes ht hi hz hsize hby hzs hsz v n xs hown _ m news hsrc h63 hbytes
  unfold Oper.wp execOp
  simp only [ho, resolve, invoke, builtin, Sem.run_bind, Sem.run_pure, Result.andThen_ok, List.map_toArray, List.map_cons, List.map_nil, hs, hy, hr]
  exact h v' w' h2 h3

/-- A cut of an owned slice, from its head on, is owned. -/
theorem own_take {w : World} {e : TypeId} {g n cap : Nat} {xs : List Value} (h : w.ownsRow 0 e 1 (.slice (some ⟨g, 0, none⟩) n cap) n xs) (k : Nat) (hk : k ≤ n) : w.ownsRow 0 e 1 (.slice (some ⟨g, 0, none⟩) k cap) k (xs.take k) := by
  have hl := h.1
  refine ⟨by simp; omega, ?_⟩
  rcases h.2 with ⟨h, _⟩ | ⟨g', cap', cur, hv, hb, hg, hnc, hcm, hcs, htake⟩
  · cases h
  · cases hv
    refine .inr ⟨g, cap, cur, rfl, hb, hg, by omega, hcm, hcs, ?_⟩
    rw [← htake, List.take_take]
    congr 1; omega

/-- The cells behind k of an owned slice, as a source. -/
theorem src_drop {w : World} {e : TypeId} {g n cap : Nat} {xs : List Value} (h : w.ownsRow 0 e 1 (.slice (some ⟨g, 0, none⟩) n cap) n xs) (h1 : ∀ u ∈ xs, u.oneCell' = true) (k c : Nat) (hk : k ≤ n) : Src w 1 (.slice (some ⟨g, k, none⟩) (n - k) c) (n - k) (xs.drop k) := by
  have hl := h.1
  refine ⟨by simp; omega, fun u hu => h1 u (List.mem_of_mem_drop hu), some ⟨g, k, none⟩, c, rfl, (fun h => by cases h), fun a ha j u hj => ?_⟩
  cases ha
  have := h.cells (g := g) rfl (k + j) u (by simpa using hj)
  rw [← this]
  congr 1
  unfold Addr.add
  by_cases e1 : j = 0
  · by_cases e2 : k = 0
    · simp [e1, e2]
    · simp [e1, e2]
  · simp [e1]

/-- The same, whatever the address where nothing is taken. -/
theorem src_cut {w : World} {e : TypeId} {g n cap : Nat} {xs : List Value} (h : w.ownsRow 0 e 1 (.slice (some ⟨g, 0, none⟩) n cap) n xs) (h1 : ∀ u ∈ xs, u.oneCell' = true) (k m c : Nat) (ao : Option Addr) (hm : k + m = n) (hao : m ≠ 0 → ao = some ⟨g, k, none⟩) : Src w 1 (.slice ao m c) m (xs.drop k) := by
  by_cases h0 : m = 0
  · subst h0
    have hl := h.1
    have : xs.drop k = [] := List.eq_nil_of_length_eq_zero (by simp; omega)
    rw [this]
    exact ⟨rfl, (fun u hu => by cases hu), ao, c, rfl, fun _ => rfl, fun a ha j u hj => by simp at hj⟩
  · rw [hao h0]
    have := src_drop h h1 k c (by omega)
    rwa [show n - k = m by omega] at this

/-- An append that finds room. -/
theorem step_app_room {P : Program} {ops : Array Oper} {o : Oper} {a : Act} {w : World} {K : Act → World → Prop} {Q : Exit → Act → World → Prop} {E : Prop} (hgd : o.guard = none) (s x : Operand) (t : TypeId)
    (ho : o.op = .call { callee := .builtin .append, args := #[s, x], argTypes := #[t, t] })
    (e : TypeId) (i : TypeInfo) (ht : P.underlying t = some (.slice e)) (hi : P.info? e = some i) (hsize : i.size = 1)
    (g n cap : Nat) (xs : List Value) (hs : a.eval s = .slice (some ⟨g, 0, none⟩) n cap) (hown : w.ownsRow 0 e 1 (.slice (some ⟨g, 0, none⟩) n cap) n xs)
    (y : Value) (hy : a.eval x = y) (m : Nat) (news : List Value) (hsrc : Src w 1 y m news) (hroom : n + m ≤ cap)
    (h : ∀ w', w'.ownsRow 0 e 1 (.slice (some ⟨g, 0, none⟩) (n + m) cap) (n + m) (xs ++ news) → Keeps (fun b => b = g) w w' → K (a.put o.dst (.slice (some ⟨g, 0, none⟩) (n + m) cap)) w') :
    if Region.wanted o (yielded ops a.tmps) = true then Oper.wp P o a w K Q else E := by
  have hw : Region.wanted o (yielded ops a.tmps) = true := by simp [Region.wanted, hgd]
  rw [if_pos hw]
  obtain ⟨hl, h1, ao, c, rfl, hao, hcell⟩ := hsrc
  have key : ∃ w', (Builtin.append_ #[t, t] o.type #[.slice (some ⟨g, 0, none⟩) n cap, .slice ao m c]).run P w = .ok (.slice (some ⟨g, 0, none⟩) (n + m) cap) w' ∧
      w'.ownsRow 0 e 1 (.slice (some ⟨g, 0, none⟩) (n + m) cap) (n + m) (xs ++ news) ∧ Keeps (fun b => b = g) w w' := by
    have hlen : (xs ++ news).length = (n + m) * 1 := by rw [List.length_append, hown.1, hl, Nat.add_mul]
    rcases hown.2 with ⟨h, _⟩ | ⟨g', cap', cur, hv, hbg, hg, hnc, hcm, hcs, htake⟩
    · cases h
    · cases hv
      cases ao with
      | none =>
        obtain rfl : m = 0 := hao rfl
        obtain rfl : news = [] := List.eq_nil_of_length_eq_zero (by simpa using hl)
        refine ⟨w, ?_, by simpa using hown, Keeps.refl _ _⟩
        simp [Builtin.append_, run_underlying ht, sizeOf, typeInfo, hi, Builtin.lenOf, Builtin.firstCells, hnc, storeCells]
      | some ad =>
        have hfit : n * i.size + news.length ≤ cur.size := by rw [hl, hcs, hsize, ← Nat.add_mul]; exact Nat.mul_le_mul_right _ hroom
        have hr := run_append_room (P := P) w t o.type e i ht hi g n cap cur hg ad m c news (by rw [hl, hsize]) (hcell ad rfl) h1 hroom hfit
        refine ⟨_, hr, ⟨hlen, .inr ⟨g, cap, _, rfl, hbg, setRow_heap w g cur _ e _ hg, hroom, hcm, ?_, ?_⟩⟩, ⟨rfl, rfl, rfl, by simp, fun k _ hk => setRow_other w g k _ hk⟩⟩
        · simp only [List.size_toArray, List.length_append, List.length_take, List.length_drop, Array.length_toList]
          omega
        · rw [hsize, htake, ← hlen]
          exact List.take_left
  obtain ⟨w', hr, h2, h3⟩ := key
  unfold Oper.wp execOp
  simp only [ho, resolve, invoke, builtin, Sem.run_bind, Sem.run_pure, Result.andThen_ok, List.map_toArray, List.map_cons, List.map_nil, hs, hy, hr]
  exact h w' h2 h3

theorem heap_setCell {w : World} {b off : Nat} {cur : Array Value} {e : Nat} {fz : Nat × Nat} (v : Value) (h : w.heap[b]? = some (.cells cur e fz)) : (w.setCell ⟨b, off, none⟩ v).heap[b]? = some (.cells (cur.setIfInBounds off v) e fz) := by
  simp [World.setCell, Array.getElem?_modify, h]

theorem heap_setCells {e : Nat} {fz : Nat × Nat} (b : Nat) : ∀ (vs : List Value) (o : Nat) (w : World) (cur : Array Value), w.heap[b]? = some (.cells cur e fz) →
    ∃ cur', (w.setCells b o vs).heap[b]? = some (.cells cur' e fz) ∧ cur'.size = cur.size ∧ ∀ k, k < o → cur'[k]? = cur[k]?
  | [], _, _, cur, h => ⟨cur, h, rfl, fun _ _ => rfl⟩
  | v :: r, o, w, cur, h => by
    obtain ⟨cur', h1, h2, h3⟩ := heap_setCells b r (o + 1) _ _ (heap_setCell (off := o) v h)
    refine ⟨cur', h1, by simpa using h2, fun k hk => ?_⟩
    rw [h3 k (by omega), Array.getElem?_setIfInBounds_ne (by omega)]

theorem Keeps.setCells {S : Nat → Prop} {a : World} (b : Nat) (hb : b < a.heap.size → S b) : ∀ (vs : List Value) (o : Nat) (w : World), Keeps S a w → Keeps S a (w.setCells b o vs)
  | [], _, _, h => h
  | v :: r, o, _, h => Keeps.setCells b hb r (o + 1) _ (h.setCell (p := ⟨b, o, none⟩) hb v)

/-- Cells behind the slice's end are laid over: it is owned as before. -/
theorem own_setCells {w : World} {e : TypeId} {g n cap : Nat} {xs : List Value} (h : w.ownsRow 0 e 1 (.slice (some ⟨g, 0, none⟩) n cap) n xs) (o : Nat) (ho : n ≤ o) (vs : List Value) : (w.setCells g o vs).ownsRow 0 e 1 (.slice (some ⟨g, 0, none⟩) n cap) n xs := by
  refine ⟨h.1, ?_⟩
  rcases h.2 with ⟨h, _⟩ | ⟨g', cap', cur, hv, hb, hg, hnc, hcm, hcs, htake⟩
  · cases h
  · cases hv
    obtain ⟨cur', h1, h2, h3⟩ := heap_setCells g vs o w cur hg
    refine .inr ⟨g, cap, cur', rfl, hb, h1, hnc, hcm, by omega, ?_⟩
    rw [← htake]
    apply List.ext_getElem?
    intro k
    simp only [List.getElem?_take, Nat.mul_one]
    split
    · simpa using h3 k (by omega)
    · rfl

end Go.Proofs.Ybulkcdkc
