import Derived.Test.YbulkcdkcStr
import Derived.Maps.Own
import Derived.DeepKeys4
/-
  The map 'processed': names to numbers.
-/
namespace Go.Proofs.Ybulkcdkc
open Go.RowKit
open Go.ChangeMaps (setBlock)
open Go.WideMaps (string_law keyOf_string_mk)

theorem law9 : WideMaps.KeyLaw Yba.prog 9 := string_law Yba.underlying9
theorem Yba.info23 : (Yba.prog.info? 23).map (fun i => (i.zero, i.size, i.bytes)) = some (some (.int .u64 0), 1, 8) := by kernel_rfl
def pent (p : ByteArray × Nat) : Value × Value := (.string p.1, .int .u64 p.2)
structure Pm (w : World) (B : Nat) (kv : List (ByteArray × Nat)) : Prop where
  map : ∃ es clock, w.heap[B]? = some (.map es clock) ∧ es.toList.map (fun x => (x.key, x.val)) = kv.map pent
  nod : (kv.map Prod.fst).Nodup
  ok : ∀ p ∈ kv, p.1.size ≤ maxLen
def Res.pm (B : Nat) (kv : List (ByteArray × Nat)) : Res where
  F := fun b => b = B
  A := fun w => Pm w B kv
  keep := fun w w' S h k hS => by
    obtain ⟨es, clock, hb, he⟩ := h.map
    exact ⟨⟨es, clock, (k.block B (Array.getElem?_eq_some_iff.1 hb).1 (hS B rfl)).trans hb, he⟩, h.nod, h.ok⟩
  lt := fun w b h hb => by
    obtain ⟨es, clock, hb', he⟩ := h.map
    subst hb; exact (Array.getElem?_eq_some_iff.1 hb').1
/-- What the map says of a name. -/
def pv (kv : List (ByteArray × Nat)) (x : ByteArray) : Nat := match kv.find? (fun p => eqb p.1 x) with
  | some p => p.2
  | none => 0
theorem pv_at : ∀ {kv : List (ByteArray × Nat)}, (kv.map Prod.fst).Nodup → ∀ {p : ByteArray × Nat}, p ∈ kv → pv kv p.1 = p.2
  | [], _, p, h => by cases h
  | q :: kv, hn, p, h => by
    simp only [List.map_cons, List.nodup_cons] at hn
    unfold pv
    rw [List.find?_cons]
    by_cases e : q.1 = p.1
    · rw [eqb_iff.2 e]
      simp only
      rcases List.mem_cons.1 h with rfl | h
      · rfl
      · exact absurd (e ▸ List.mem_map_of_mem (f := Prod.fst) h) hn.1
    · rw [eqb_ne e]
      simp only
      rcases List.mem_cons.1 h with rfl | h
      · exact absurd rfl e
      · exact pv_at hn.2 h
theorem pv_no {kv : List (ByteArray × Nat)} {x : ByteArray} (h : x ∉ kv.map Prod.fst) : pv kv x = 0 := by
  unfold pv
  rw [List.find?_eq_none.2 (fun p hp => by
    have : p.1 ≠ x := fun e => h (e ▸ List.mem_map_of_mem (f := Prod.fst) hp)
    simp [eqb_ne this])]
section
variable {w : World} {B : Nat} {kv : List (ByteArray × Nat)} {s : ByteArray}
theorem Pm.keepF {w' : World} (h : Pm w B kv) (k : Keeps (fun _ => False) w w') : Pm w' B kv := (Res.pm B kv).keep w w' _ h k (fun _ _ h => h)
theorem Pm.keys (h : Pm w B kv) {es : Array MapEntry} (he : es.toList.map (fun x => (x.key, x.val)) = kv.map pent) : ∀ e ∈ es.toList, ∃ l, keyOf Yba.prog 9 e.key = some l := by
  intro e hm
  have h1 : (e.key, e.val) ∈ kv.map pent := by rw [← he]; exact List.mem_map_of_mem (f := fun x : MapEntry => (x.key, x.val)) hm
  obtain ⟨p, hp, e1⟩ := List.mem_map.1 h1
  have e2 : e.key = .string p.1 := (congrArg Prod.fst e1).symm
  exact ⟨_, by rw [e2]; exact keyOf_string_mk Yba.underlying9 (h.ok p hp)⟩
theorem Pm.look (h : Pm w B kv) (hsz : s.size ≤ maxLen) : (Instr.lookup 44 (.map (some B)) (.string s) false).run Yba.prog w = .ok (.int .u64 (pv kv s)) w := by
  obtain ⟨i23, hi23, hz23, hs23, hb23⟩ := info_parts Yba.info23
  obtain ⟨es, clock, hb, he⟩ := h.map
  have hk := keyOf_string_mk Yba.underlying9 hsz
  rcases law9.find w hk es.toList (h.keys he) with ⟨h1, h2⟩ | ⟨j, e0, h1, h2, h3⟩
  · have hno : s ∉ kv.map Prod.fst := fun hm => by
      obtain ⟨p, hp, e1⟩ := List.mem_map.1 hm
      have : pent p ∈ kv.map pent := List.mem_map_of_mem (f := pent) hp
      rw [← he] at this
      obtain ⟨e, hm', e2⟩ := List.mem_map.1 this
      exact h2 e hm' (by have := congrArg Prod.fst e2; rw [← e1]; exact this)
    rw [pv_no hno]
    simp [Instr.lookup, run_underlying Yba.underlying44, MapKept.run_getObj_map hb, law9.check w _ hk, h1, zeroValue, typeInfo, hi23, hz23, Result.andThen]
  · have hm : e0 ∈ es.toList := List.mem_of_getElem? h2
    have h4 : (e0.key, e0.val) ∈ kv.map pent := by rw [← he]; exact List.mem_map_of_mem (f := fun x : MapEntry => (x.key, x.val)) hm
    obtain ⟨p, hp, e1⟩ := List.mem_map.1 h4
    have e2 : e0.key = .string p.1 := (congrArg Prod.fst e1).symm
    have e3 : e0.val = .int .u64 p.2 := (congrArg Prod.snd e1).symm
    have hs : p.1 = s := by have := e2.symm.trans h3; injection this
    subst hs
    rw [pv_at h.nod hp]
    simp [Instr.lookup, run_underlying Yba.underlying44, MapKept.run_getObj_map hb, law9.check w _ hk, h1, e3, Result.andThen]
theorem Pm.put (h : Pm w B kv) (hs : s ∉ kv.map Prod.fst) (hsz : s.size ≤ maxLen) (v : Nat) : ∃ w', (Instr.mapUpdate 44 (.map (some B)) (.string s) (.int .u64 v)).run Yba.prog w = .ok () w' ∧ Pm w' B (kv ++ [(s, v)]) ∧ Keeps (fun b => b = B) w w' := by
  obtain ⟨es, clock, hb, he⟩ := h.map
  have hk := keyOf_string_mk Yba.underlying9 hsz
  have hBlt : B < w.heap.size := (Array.getElem?_eq_some_iff.1 hb).1
  rcases law9.find w hk es.toList (h.keys he) with ⟨h1, h2⟩ | ⟨j, e0, h1, h2, h3⟩
  · refine ⟨setBlock w B (.map (es.push ⟨.string s, .int .u64 v, clock⟩) (clock + 1)), ?_, ⟨⟨es.push ⟨.string s, .int .u64 v, clock⟩, clock + 1, ?_, by simp [he, pent]⟩, ?_, ?_⟩, ?_⟩
    · simp [Instr.mapUpdate, run_underlying Yba.underlying44, MapKept.run_getObj_map hb, law9.check w false hk, h1, MapKept.run_setObj_map _ hb, Result.andThen, setBlock]
    · show (w.heap.setIfInBounds B _)[B]? = _
      simp [hBlt]
    · rw [List.map_append]
      refine List.nodup_append.2 ⟨h.nod, by simp, fun a ha b hb' e => ?_⟩
      simp at hb'; exact hs (hb' ▸ e ▸ ha)
    · intro t ht
      simp only [List.mem_append, List.mem_singleton] at ht
      rcases ht with ht | rfl
      · exact h.ok t ht
      · exact hsz
    · exact ⟨rfl, rfl, rfl, by show _ ≤ (w.heap.setIfInBounds B _).size; simp, fun k hk' hn => by show (w.heap.setIfInBounds B _)[k]? = _; rw [Array.getElem?_setIfInBounds_ne (fun e => hn e.symm)]⟩
  · exfalso
    have hm : e0 ∈ es.toList := List.mem_of_getElem? h2
    have h4 : (e0.key, e0.val) ∈ kv.map pent := by rw [← he]; exact List.mem_map_of_mem (f := fun x : MapEntry => (x.key, x.val)) hm
    obtain ⟨p, hp, e1⟩ := List.mem_map.1 h4
    have e2 : e0.key = .string p.1 := (congrArg Prod.fst e1).symm
    have e3 : p.1 = s := by have := e2.symm.trans h3; injection this
    exact hs (e3 ▸ List.mem_map_of_mem (f := Prod.fst) hp)
end
end Go.Proofs.Ybulkcdkc
