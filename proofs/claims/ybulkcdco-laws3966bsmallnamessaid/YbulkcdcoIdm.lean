import Derived.Test.YbulkcdcoAdj
import Derived.Test.YbulkcdcoFn
namespace Go.Proofs.Ybulkcdco
open Go.RowKit
open Go.ChangeMaps (setBlock)
open Go.WideMaps (string_law keyOf_string_mk)

theorem law9 : WideMaps.KeyLaw Yba.prog 9 := string_law Yba.underlying9
/-- The names' numbers, as the map's entries. -/
def ents : Nat → List ByteArray → List (Value × Value)
  | _, [] => []
  | k, s :: l => (.string s, .int .i64 (k : Int)) :: ents (k + 1) l
theorem ents_append : ∀ (l : List ByteArray) (k : Nat) (s : ByteArray), ents k (l ++ [s]) = ents k l ++ [(.string s, .int .i64 ((k + l.length : Nat) : Int))]
  | [], k, s => by simp [ents]
  | a :: l, k, s => by simp only [List.cons_append, ents, ents_append l (k + 1) s, List.length_cons]; rw [show k + 1 + l.length = k + (l.length + 1) by omega]
theorem ents_get : ∀ (l : List ByteArray) (k i : Nat) (h : i < l.length), (ents k l)[i]? = some (.string l[i], .int .i64 ((k + i : Nat) : Int))
  | a :: l, k, 0, _ => by simp [ents]
  | a :: l, k, i + 1, h => by
    simp only [ents, List.getElem?_cons_succ, ents_get l (k + 1) i (by simpa using h), List.getElem_cons_succ]
    rw [show k + 1 + i = k + (i + 1) by omega]
theorem ents_len : ∀ (l : List ByteArray) (k : Nat), (ents k l).length = l.length
  | [], _ => rfl
  | _ :: l, k => by simp [ents, ents_len l (k + 1)]
theorem ents_mem {l : List ByteArray} {k : Nat} {p : Value × Value} (h : p ∈ ents k l) : ∃ s ∈ l, p.1 = .string s := by
  induction l generalizing k with
  | nil => cases h
  | cons a l ih =>
    simp only [ents, List.mem_cons] at h
    rcases h with rfl | h
    · exact ⟨a, by simp, rfl⟩
    · obtain ⟨s, hs, e⟩ := ih h; exact ⟨s, by simp [hs], e⟩
theorem mem_ents {l : List ByteArray} {k : Nat} {s : ByteArray} (h : s ∈ l) : ∃ v, (Value.string s, v) ∈ ents k l := by
  induction l generalizing k with
  | nil => cases h
  | cons a l ih =>
    simp only [List.mem_cons] at h
    rcases h with rfl | h
    · exact ⟨_, by simp only [ents, List.mem_cons]; exact .inl rfl⟩
    · obtain ⟨v, hv⟩ := ih (k := k + 1) h; exact ⟨v, by simp only [ents, List.mem_cons]; exact .inr hv⟩

structure Idm (w : World) (B : Nat) (names : List ByteArray) : Prop where
  map : ∃ es clock, w.heap[B]? = some (.map es clock) ∧ es.toList.map (fun x => (x.key, x.val)) = ents 0 names
  nod : names.Nodup
  ok : ∀ s ∈ names, s.size ≤ maxLen
def Res.idm (B : Nat) (names : List ByteArray) : Res where
  F := fun b => b = B
  A := fun w => Idm w B names
  keep := fun w w' S h k hS => by
    obtain ⟨es, clock, hb, he⟩ := h.map
    exact ⟨⟨es, clock, (k.block B (Array.getElem?_eq_some_iff.1 hb).1 (hS B rfl)).trans hb, he⟩, h.nod, h.ok⟩
  lt := fun w b h hb => by
    obtain ⟨es, clock, hb', he⟩ := h.map
    subst hb; exact (Array.getElem?_eq_some_iff.1 hb').1

section
variable {w : World} {B : Nat} {names : List ByteArray} {s : ByteArray}
theorem Idm.keys (h : Idm w B names) {es : Array MapEntry} (he : es.toList.map (fun x => (x.key, x.val)) = ents 0 names) : ∀ e ∈ es.toList, ∃ l, keyOf Yba.prog 9 e.key = some l := by
  intro e hm
  have h1 : (e.key, e.val) ∈ ents 0 names := by rw [← he]; exact List.mem_map_of_mem (f := fun x : MapEntry => (x.key, x.val)) hm
  obtain ⟨t, ht, e1⟩ := ents_mem h1
  exact ⟨_, by rw [show e.key = .string t from e1]; exact keyOf_string_mk Yba.underlying9 (h.ok t ht)⟩
theorem Idm.size (h : Idm w B names) : (Builtin.len_ #[61] 3 #[.map (some B)]).run Yba.prog w = .ok (.int .i64 (names.length : Int)) w := by
  obtain ⟨es, clock, hb, he⟩ := h.map
  have hl : es.size = names.length := by have := congrArg List.length he; simpa [ents_len] using this
  simp [Builtin.len_, run_underlying Yba.underlying61, MapKept.run_getObj_map hb, hl, goInt, Result.andThen]
theorem Idm.look_at (h : Idm w B names) (i : Nat) (hi : i < names.length) (hs : names[i] = s) : (Instr.lookup 61 (.map (some B)) (.string s) true).run Yba.prog w = .ok (.tuple #[.int .i64 (i : Int), .bool true]) w := by
  obtain ⟨es, clock, hb, he⟩ := h.map
  have hk := keyOf_string_mk Yba.underlying9 (h.ok s (by rw [← hs]; simp))
  rcases law9.find w hk es.toList (h.keys he) with ⟨h1, h2⟩ | ⟨j, e0, h1, h2, h3⟩
  · exfalso
    obtain ⟨v, hv⟩ := mem_ents (k := 0) (show s ∈ names by rw [← hs]; simp)
    rw [← he] at hv
    simp only [List.mem_map, Prod.mk.injEq] at hv
    obtain ⟨e, hm, e1, _⟩ := hv
    exact h2 e hm e1
  · have hlen : es.toList.length = names.length := by have := congrArg List.length he; simpa [ents_len] using this
    have hj : j < names.length := by rw [← hlen]; exact (List.getElem?_eq_some_iff.1 h2).1
    have h4 := congrArg (fun l => l[j]?) he
    simp only [List.getElem?_map, h2, Option.map_some, ents_get names 0 j hj, Option.some.injEq, Prod.mk.injEq] at h4
    have hjs : names[j] = s := by have := h4.1.symm.trans h3; injection this
    have hij : j = i := (List.getElem_inj (xs := names) h.nod (h₀ := hj) (h₁ := hi)).1 (by rw [hjs, hs])
    subst hij
    have h5 : e0.val = .int .i64 (j : Int) := by have := h4.2; simpa using this
    simp [Instr.lookup, run_underlying Yba.underlying61, MapKept.run_getObj_map hb, law9.check w _ hk, h1, h5, Result.andThen]
theorem Idm.look_no (h : Idm w B names) (hs : s ∉ names) (hsz : s.size ≤ maxLen) : (Instr.lookup 61 (.map (some B)) (.string s) true).run Yba.prog w = .ok (.tuple #[.int .i64 0, .bool false]) w := by
  obtain ⟨es, clock, hb, he⟩ := h.map
  have hk := keyOf_string_mk Yba.underlying9 hsz
  rcases law9.find w hk es.toList (h.keys he) with ⟨h1, h2⟩ | ⟨j, e0, h1, h2, h3⟩
  · simp [Instr.lookup, run_underlying Yba.underlying61, MapKept.run_getObj_map hb, law9.check w _ hk, h1, Result.andThen]
  · exfalso
    have hm : e0 ∈ es.toList := List.mem_of_getElem? h2
    have : (e0.key, e0.val) ∈ ents 0 names := by rw [← he]; exact List.mem_map_of_mem (f := fun x : MapEntry => (x.key, x.val)) hm
    obtain ⟨t, ht, e1⟩ := ents_mem this
    have e1 : e0.key = .string t := e1
    rw [h3] at e1; injection e1 with e1
    exact hs (e1 ▸ ht)
theorem Idm.put (h : Idm w B names) (hs : s ∉ names) (hsz : s.size ≤ maxLen) : ∃ w', (Instr.mapUpdate 61 (.map (some B)) (.string s) (.int .i64 (names.length : Int))).run Yba.prog w = .ok () w' ∧ Idm w' B (names ++ [s]) ∧ Keeps (fun b => b = B) w w' := by
  obtain ⟨es, clock, hb, he⟩ := h.map
  have hk := keyOf_string_mk Yba.underlying9 hsz
  have hBlt : B < w.heap.size := (Array.getElem?_eq_some_iff.1 hb).1
  rcases law9.find w hk es.toList (h.keys he) with ⟨h1, h2⟩ | ⟨j, e0, h1, h2, h3⟩
  · refine ⟨setBlock w B (.map (es.push ⟨.string s, .int .i64 (names.length : Int), clock⟩) (clock + 1)), ?_, ⟨⟨es.push ⟨.string s, .int .i64 (names.length : Int), clock⟩, clock + 1, ?_, by rw [ents_append]; simp [he]⟩, ?_, ?_⟩, ?_⟩
    · simp [Instr.mapUpdate, run_underlying Yba.underlying61, MapKept.run_getObj_map hb, law9.check w false hk, h1, MapKept.run_setObj_map _ hb, Result.andThen, setBlock]
    · show (w.heap.setIfInBounds B _)[B]? = _
      simp [hBlt]
    · refine List.nodup_append.2 ⟨h.nod, by simp, fun a ha b hb' e => ?_⟩
      simp at hb'; exact hs (hb' ▸ e ▸ ha)
    · intro t ht
      simp only [List.mem_append, List.mem_singleton] at ht
      rcases ht with ht | rfl
      · exact h.ok t ht
      · exact hsz
    · exact ⟨rfl, rfl, rfl, by show _ ≤ (w.heap.setIfInBounds B _).size; simp, fun k hk' hn => by show (w.heap.setIfInBounds B _)[k]? = _; rw [Array.getElem?_setIfInBounds_ne (fun e => hn e.symm)]⟩
  · exfalso
    have hm : e0 ∈ es.toList := List.mem_of_getElem? h2
    have : (e0.key, e0.val) ∈ ents 0 names := by rw [← he]; exact List.mem_map_of_mem (f := fun x : MapEntry => (x.key, x.val)) hm
    obtain ⟨t, ht, e1⟩ := ents_mem this
    have e1 : e0.key = .string t := e1
    rw [h3] at e1; injection e1 with e1
    exact hs (e1 ▸ ht)
end

/-- The number of s, and the names behind it. -/
theorem id_any {w0 w : World} {bm B : Nat} {names : List ByteArray} {rs : List Res} (S : Sep w0 w (Res.blk bm #[.map (some B)] 61 :: Res.idm B names :: rs)) (s : ByteArray) (hsz : s.size ≤ maxLen) :
    Calls Yba.prog 15 #[.string s, .pointer (some ⟨bm, 0, none⟩)] w fun r w' => ∃ (i : Nat) (names' : List ByteArray), r = .returned (.int .i64 (i : Int)) ∧ names'[i]? = some s ∧ (names' = names ∨ (s ∉ names ∧ names' = names ++ [s])) ∧
      Sep w0 w' (Res.blk bm #[.map (some B)] 61 :: Res.idm B names' :: rs) := by
  have hb : w.heap[bm]? = _ := S.head
  have c0 : w.cell? ⟨bm, 0, none⟩ = some (.map (some B)) := cell_of_row w bm 0 _ 61 (0, 0) hb
  have hI : Idm w B names := S.tail.head
  by_cases hs : s ∈ names
  · obtain ⟨i, hi, hie⟩ := List.getElem_of_mem hs
    have hl := hI.look_at i hi hie
    go_enter Yba.func15, Yba.ntmps15
    go_wp2
    go_ret
    exact ⟨i, names, rfl, by rw [List.getElem?_eq_getElem hi, hie], .inl rfl, S⟩
  · have hl := hI.look_no hs hsz
    have hlen := hI.size
    obtain ⟨w', hput, hI', hk⟩ := hI.put hs hsz
    go_enter Yba.func15, Yba.ntmps15
    go_wp2
    go_ret
    refine ⟨names.length, names ++ [s], rfl, by simp, .inr ⟨hs, rfl⟩, ?_⟩
    exact (S.p2.upd1 (r' := Res.idm B (names ++ [s])) hI' hk (fun b hb => .inl hb)).p2
end Go.Proofs.Ybulkcdco
