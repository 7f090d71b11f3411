import Derived.Test.YbulkcdcoSep
namespace Go.Proofs.Ybulkcdco
open Go.RowKit
open Go.ChangeMaps (setBlock)

/-- An entry: its object, the block of its lines, the lines. -/
structure E where
  o : Ob
  f : Nat
  a : Int
  d : Int
def E.ptr (x : E) : Value := .pointer (some ⟨x.f, 0, none⟩)

structure Rws (w : World) (pg B : Nat) (vp : Value) (L : List E) (PL : List Ob) : Prop where
  blk : w.heap[pg]? = some (.cells #[.map (some B), vp] 27 (0, 0))
  map : ∃ es clock, w.heap[B]? = some (.map es clock) ∧ es.toList.map (fun x => (x.key, x.val)) = L.map (fun x => (x.o.v, x.ptr))
  fs : ∀ x ∈ L, w.heap[x.f]? = some (.cells #[.int .i64 x.a, .int .i64 x.d] 45 (0, 0))
  prt : w.ownsRow 0 37 5 vp PL.length (PL.flatMap Ob.cells)
  dis : (L.map E.f).Nodup
  nod : (L.map E.o).Nodup
  ok : ∀ x ∈ L, x.o.Ok
  pok : ∀ o ∈ PL, o.Ok
def RF (pg B : Nat) (vp : Value) (L : List E) (b : Nat) : Prop := b = pg ∨ b = B ∨ (∃ x ∈ L, x.f = b) ∨ vp.ownBlock = some b

theorem heap_lt {w : World} {g : Nat} {o : Obj} (h : w.heap[g]? = some o) : g < w.heap.size := (Array.getElem?_eq_some_iff.1 h).1
def Res.rows (pg B : Nat) (vp : Value) (L : List E) (PL : List Ob) : Res where
  F := RF pg B vp L
  A := fun w => Rws w pg B vp L PL
  keep := fun w w' S h k hS => by
    obtain ⟨es, clock, hb, he⟩ := h.map
    refine ⟨(k.block pg (heap_lt h.blk) (hS pg (.inl rfl))).trans h.blk, ⟨es, clock, (k.block B (heap_lt hb) (hS B (.inr (.inl rfl)))).trans hb, he⟩, fun x hx => ?_, k.own h.prt (fun g hg => hS g (.inr (.inr (.inr hg)))), h.dis, h.nod, h.ok, h.pok⟩
    exact (k.block x.f (heap_lt (h.fs x hx)) (hS x.f (.inr (.inr (.inl ⟨x, hx, rfl⟩))))).trans (h.fs x hx)
  lt := fun w b h hb => by
    rcases hb with rfl | rfl | ⟨x, hx, rfl⟩ | hb
    · exact heap_lt h.blk
    · obtain ⟨es, clock, hb, he⟩ := h.map; exact heap_lt hb
    · exact heap_lt (h.fs x hx)
    · exact (h.prt.lt _ hb).2

theorem Ob.v_inj {a b : Ob} (h : a.v = b.v) : a = b := by
  cases a; cases b
  simp only [Ob.v, Value.agg.injEq] at h
  simp at h
  obtain ⟨h1, h2, h3, h4, h5⟩ := h
  subst h1; subst h2; subst h3
  congr 1
  · omega
  · omega

theorem Yba.info43 : (Yba.prog.info? 43).map (fun i => (i.zero, i.size, i.bytes)) = some (some (.pointer none), 1, 8) := by kernel_rfl
theorem zero43 (w : World) : (zeroValue 43).run Yba.prog w = .ok (.pointer none) w := by
  obtain ⟨i0, hi, hi0, _, _⟩ := info_parts Yba.info43
  simp [zeroValue, typeInfo, hi, hi0]

theorem Rws.keys {w : World} {pg B : Nat} {vp : Value} {L : List E} {PL : List Ob} (h : Rws w pg B vp L PL) {es : Array MapEntry} (he : es.toList.map (fun x => (x.key, x.val)) = L.map (fun x => (x.o.v, x.ptr))) :
    ∀ e ∈ es.toList, ∃ l, keyOf Yba.prog 37 e.key = some l := by
  intro e hm
  have : (e.key, e.val) ∈ L.map (fun x => (x.o.v, x.ptr)) := by rw [← he]; exact List.mem_map_of_mem (f := fun x : MapEntry => (x.key, x.val)) hm
  simp only [List.mem_map, Prod.mk.injEq] at this
  obtain ⟨x, hx, h1, h2⟩ := this
  rw [← h1]; exact key37 x.o (h.ok x hx)

/-- m[k]. -/
theorem Rws.look {w : World} {pg B : Nat} {vp : Value} {L : List E} {PL : List Ob} (h : Rws w pg B vp L PL) (o : Ob) (ho : o.Ok) :
    (∃ i, ∃ hi : i < L.length, L[i].o = o ∧ (Instr.lookup 24 (.map (some B)) o.v false).run Yba.prog w = .ok (.pointer (some ⟨L[i].f, 0, none⟩)) w) ∨
    ((∀ x ∈ L, x.o ≠ o) ∧ (Instr.lookup 24 (.map (some B)) o.v false).run Yba.prog w = .ok (.pointer none) w) := by
  obtain ⟨es, clock, hb, he⟩ := h.map
  obtain ⟨l, hl⟩ := key37 o ho
  have hlen : es.toList.length = L.length := by have := congrArg List.length he; simpa using this
  rcases law37.find w hl es.toList (h.keys he) with ⟨h1, h2⟩ | ⟨j, e0, h1, h2, h3⟩
  · right
    refine ⟨fun x hx hxo => ?_, by simp [Instr.lookup, run_underlying Yba.underlying24, MapKept.run_getObj_map hb, law37.check w _ hl, h1, Result.andThen]⟩
    have : (x.o.v, x.ptr) ∈ es.toList.map (fun x => (x.key, x.val)) := by rw [he]; exact List.mem_map_of_mem (f := fun x : E => (x.o.v, x.ptr)) hx
    simp only [List.mem_map, Prod.mk.injEq] at this
    obtain ⟨e, hm, e1, e2⟩ := this
    exact h2 e hm (e1.trans (by rw [hxo]))
  · left
    have hj : j < L.length := by rw [← hlen]; exact (List.getElem?_eq_some_iff.1 h2).1
    have h4 := congrArg (fun l => l[j]?) he
    simp only [List.getElem?_map, h2, Option.map_some] at h4
    rw [List.getElem?_eq_getElem hj] at h4
    simp only [Option.map_some, Option.some.injEq, Prod.mk.injEq] at h4
    refine ⟨j, hj, (Ob.v_inj (h4.1.symm.trans h3)), ?_⟩
    have h5 : e0.val = .pointer (some ⟨L[j].f, 0, none⟩) := h4.2
    rw [← h5]
    simp [Instr.lookup, run_underlying Yba.underlying24, MapKept.run_getObj_map hb, law37.check w _ hl, h1, Result.andThen]

/-- m[k] = v at a new key. -/
theorem Rws.put {w : World} {pg B : Nat} {vp : Value} {L : List E} {PL : List Ob} (h : Rws w pg B vp L PL) (o : Ob) (ho : o.Ok) (hn : ∀ x ∈ L, x.o ≠ o) (v : Value) :
    ∃ es' clock', (Instr.mapUpdate 24 (.map (some B)) o.v v).run Yba.prog w = .ok () (setBlock w B (.map es' clock')) ∧ es'.toList.map (fun x => (x.key, x.val)) = L.map (fun x => (x.o.v, x.ptr)) ++ [(o.v, v)] := by
  obtain ⟨es, clock, hb, he⟩ := h.map
  obtain ⟨l, hl⟩ := key37 o ho
  rcases law37.find w hl es.toList (h.keys he) with ⟨h1, h2⟩ | ⟨j, e0, h1, h2, h3⟩
  · refine ⟨es.push ⟨o.v, v, clock⟩, clock + 1, ?_, by simp [he]⟩
    simp [Instr.mapUpdate, run_underlying Yba.underlying24, MapKept.run_getObj_map hb, law37.check w false hl, h1, MapKept.run_setObj_map _ hb, Result.andThen, setBlock]
  · exfalso
    have hm : e0 ∈ es.toList := List.mem_of_getElem? h2
    have : (e0.key, e0.val) ∈ L.map (fun x => (x.o.v, x.ptr)) := by rw [← he]; exact List.mem_map_of_mem (f := fun x : MapEntry => (x.key, x.val)) hm
    simp only [List.mem_map, Prod.mk.injEq] at this
    obtain ⟨x, hx, e1, e2⟩ := this
    exact hn x hx (Ob.v_inj (e1.trans h3))
end Go.Proofs.Ybulkcdco
