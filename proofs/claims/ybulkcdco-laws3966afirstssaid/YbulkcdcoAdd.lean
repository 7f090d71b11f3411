import Derived.Test.YbulkcdcoRx
namespace Go.Proofs.Ybulkcdco
open Go.RowKit
open Go.ChangeMaps (setBlock)

section
variable {w0 w : World} {pg B : Nat} {vp : Value} {L : List E} {PL : List Ob} {rs : List Res}
theorem Sep.put1 (S : Sep w0 w (Res.rows pg B vp L PL :: rs)) (i : Nat) (hi : i < L.length) (x' : E) (ho : x'.o = L[i].o) (hf : x'.f = L[i].f) (c : Nat) (u : Value) (hc : (#[Value.int .i64 L[i].a, Value.int .i64 L[i].d]).setIfInBounds c u = #[.int .i64 x'.a, .int .i64 x'.d]) :
    Sep w0 (w.setCell ⟨L[i].f, c, none⟩ u) (Res.rows pg B vp (L.set i x') PL :: rs) := by
  have h := Rws.put1 S.head i hi x' ho hf c u hc
  refine S.upd1 (r' := Res.rows pg B vp (L.set i x') PL) h.1 h.2 (fun b hb => .inl ?_)
  rcases hb with hb | hb | ⟨x, hx, hb⟩ | hb
  · exact .inl hb
  · exact .inr (.inl hb)
  · rcases List.mem_or_eq_of_mem_set hx with hx | rfl
    · exact .inr (.inr (.inl ⟨x, hx, hb⟩))
    · exact .inr (.inr (.inl ⟨L[i], by simp, by rw [← hf]; exact hb⟩))
  · exact .inr (.inr (.inr hb))
theorem Sep.grow {f : Nat} (S : Sep w0 w (Res.blk f #[.int .i64 0, .int .i64 0] 45 :: Res.rows pg B vp L PL :: rs)) (o : Ob) (ho : o.Ok) (hn : ∀ x ∈ L, x.o ≠ o) {es' : Array MapEntry} {clock' : Nat}
    (he : es'.toList.map (fun x => (x.key, x.val)) = L.map (fun x => (x.o.v, x.ptr)) ++ [(o.v, .pointer (some ⟨f, 0, none⟩))]) :
    Sep w0 (setBlock w B (.map es' clock')) (Res.rows pg B vp (L ++ [⟨o, f, 0, 0⟩]) PL :: rs) := by
  have hd := (List.pairwise_cons.1 S.dis).1 _ (List.mem_cons_self ..) f rfl
  have S2 := S.join (t := Res.two (Res.blk f #[.int .i64 0, .int .i64 0] 45) (Res.rows pg B vp L PL)) ⟨S.head, S.tail.head⟩ (fun b hb => hb)
  refine Sep.upd1 (w' := setBlock w B (.map es' clock')) (r' := Res.rows pg B vp (L ++ [({ o := o, f := f, a := 0, d := 0 } : E)]) PL) S2 (Rws.grow S.tail.head o ho hn f S.head hd he) ((keeps_setBlock w B _).mono (fun b _ hb => .inr (.inr (.inl hb)))) (fun b hb => .inl ?_)
  rcases hb with hb | hb | ⟨x, hx, hb⟩ | hb
  · exact .inr (.inl hb)
  · exact .inr (.inr (.inl hb))
  · simp only [List.mem_append, List.mem_singleton] at hx
    rcases hx with hx | rfl
    · exact .inr (.inr (.inr (.inl ⟨x, hx, hb⟩)))
    · exact .inl hb.symm
  · exact .inr (.inr (.inr (.inr hb)))
theorem Sep.ports (S : Sep w0 w (Res.rows pg B vp L PL :: rs)) (o : Ob) (ho : o.Ok) {w1 : World} {v' : Value} {n' : Nat} (hA : App 37 5 w vp PL.length (PL.flatMap Ob.cells) v' w1 n' (PL.flatMap Ob.cells ++ o.cells)) (hn : n' = PL.length + 1) :
    Sep w0 (w1.setCell ⟨pg, 1, none⟩ v') (Res.rows pg B v' L (PL ++ [o]) :: rs) := by
  have h := Rws.ports S.head o ho hA hn
  exact S.upd1 (r' := Res.rows pg B v' L (PL ++ [o])) h.1 h.2.1 h.2.2
end

theorem Rws.look_at {w : World} {pg B : Nat} {vp : Value} {L : List E} {PL : List Ob} (h : Rws w pg B vp L PL) (o : Ob) (ho : o.Ok) (i : Nat) (hi : i < L.length) (hio : L[i].o = o) :
    (Instr.lookup 24 (.map (some B)) o.v false).run Yba.prog w = .ok (.pointer (some ⟨L[i].f, 0, none⟩)) w := by
  rcases h.look o ho with ⟨j, hj, hjo, hr⟩ | ⟨hno, _⟩
  · have : j = i := (List.getElem_inj (xs := L.map E.o) h.nod (h₀ := by simpa using hj) (h₁ := by simpa using hi)).1 (by simp [hjo, hio])
    subst this; exact hr
  · exact absurd hio (hno _ (by simp))
theorem Rws.look_no {w : World} {pg B : Nat} {vp : Value} {L : List E} {PL : List Ob} (h : Rws w pg B vp L PL) (o : Ob) (ho : o.Ok) (hn : ∀ x ∈ L, x.o ≠ o) :
    (Instr.lookup 24 (.map (some B)) o.v false).run Yba.prog w = .ok (.pointer none) w := by
  rcases h.look o ho with ⟨j, hj, hjo, hr⟩ | ⟨_, hr⟩
  · exact absurd hjo (hn _ (by simp))
  · exact hr
theorem Rws.drewN {w : World} {pg B : Nat} {vp : Value} {L : List E} {PL : List Ob} (h : Rws w pg B vp L PL) (nq : Nat) : Rws (w.drewN nq) pg B vp L PL := (Res.rows pg B vp L PL).keep _ _ _ h ((Keeps.refl (fun _ => False) w).drewN nq) (fun _ _ h => h)

theorem Src.ob_new (w : World) (o : Ob) (t : TypeId) : Src (w.alloc (.cells #[.string o.k, .string o.p, .string o.r, .int .u16 (o.lo : Int), .int .u16 (o.hi : Int)] t)) 5 (.slice (some ⟨w.heap.size, 0, none⟩) 1 1) 1 o.cells := by
  refine ⟨rfl, fun x hx => ?_, some ⟨w.heap.size, 0, none⟩, 1, rfl, (fun h => by cases h), (fun a ha => ?_)⟩
  · simp only [Ob.cells, List.mem_cons, List.not_mem_nil, or_false] at hx
    rcases hx with rfl | rfl | rfl | rfl | rfl <;> rfl
  · cases ha
    intro j u hu
    have hadd : (⟨w.heap.size, 0, none⟩ : Addr).add j = ⟨w.heap.size, j, none⟩ := by unfold Addr.add; split <;> simp_all
    rw [hadd, cell_of_row _ _ j _ t (0, 0) (heap_alloc_new w _)]
    simpa [Ob.cells] using hu
theorem own_slice {w : World} {e : TypeId} {z : Nat} {v : Value} {n : Nat} {xs : List Value} (h : w.ownsRow 0 e z v n xs) : ∃ a c, v = .slice a n c := by
  rcases h.2 with ⟨rfl, rfl⟩ | ⟨g, cap, cur, rfl, rest⟩
  · exact ⟨none, 0, rfl⟩
  · exact ⟨_, cap, rfl⟩
theorem Rws.after {w w1 : World} {pg B : Nat} {vp v' : Value} {L : List E} {PL : List Ob} {n n' : Nat} {xs xs' : List Value} (h : Rws w pg B vp L PL) (hA : App 37 5 w vp n xs v' w1 n' xs') : w1.cell? ⟨pg, 1, none⟩ = some vp ∧ w1.frozen? ⟨pg, 1, none⟩ = false := by
  have hvp : vp.ownBlock ≠ some pg := fun e => by obtain ⟨cs, fr, hc⟩ := own_type h.prt e; rw [h.blk] at hc; simp at hc
  have hb := (hA.keeps.block pg (heap_lt h.blk) hvp).trans h.blk
  constructor <;> simp [World.cell?, World.frozen?, hb]

/-- Behind the look-up and what it makes. -/
def Pre (o : Ob) (pt : Bool) (L : List E) (PL : List Ob) (L1 : List E) (PL1 : List Ob) (i : Nat) : Prop :=
  (∃ hi : i < L.length, L[i].o = o ∧ L1 = L ∧ PL1 = PL) ∨ ((∀ x ∈ L, x.o ≠ o) ∧ i = L.length ∧ (∃ f, L1 = L ++ [⟨o, f, 0, 0⟩]) ∧ PL1 = if pt then PL ++ [o] else PL)
theorem Pre.lt {o : Ob} {pt : Bool} {L : List E} {PL : List Ob} {L1 : List E} {PL1 : List Ob} {i : Nat} (h : Pre o pt L PL L1 PL1 i) : i < L1.length := by
  rcases h with ⟨hi, _, rfl, _⟩ | ⟨_, rfl, ⟨f, rfl⟩, _⟩
  · exact hi
  · simp
def bump (b : Bool) (n : Int) (x : E) : E := if b then { x with a := lst x.a n } else { x with d := lst x.d n }

theorem Yba.info37 : (Yba.prog.info? 37).map (fun i => (i.zero, i.size, i.bytes)) = some (some (.agg #[.string ⟨#[]⟩, .string ⟨#[]⟩, .string ⟨#[]⟩, .int .u16 0, .int .u16 0]), 5, 56) := by kernel_rfl

set_option maxHeartbeats 3200000 in
theorem add_any {w0 w : World} {pg B : Nat} {vp : Value} {L : List E} {PL : List Ob} {rs : List Res} (S : Sep w0 w (Res.rows pg B vp L PL :: rs)) (o : Ob) (ho : o.Ok) (e : ByteArray) (b : Bool) (hb : (e == ⟨#[97, 108, 108, 111, 119]⟩) = b) (pt : Bool) (hpt : (o.k == ⟨#[112, 111, 114, 116, 115]⟩) = pt) (n : Int) (hPL : PL.length ≤ 2000) :
    Calls Yba.prog 7 #[.pointer (some ⟨pg, 0, none⟩), o.v, .string e, .int .i64 n] w fun r w' => r = .returned (.tuple #[]) ∧ ∃ vp' L1 PL1 i, ∃ hp : Pre o pt L PL L1 PL1 i, Sep w0 w' (Res.rows pg B vp' (L1.set i (bump b n (L1[i]'hp.lt))) PL1 :: rs) := by
  rw [beq_toListBytes, show (⟨#[97, 108, 108, 111, 119]⟩ : ByteArray).toList = [97, 108, 108, 111, 119] by rw [ByteArray.toList_eq]] at hb
  rw [beq_toListBytes, show (⟨#[112, 111, 114, 116, 115]⟩ : ByteArray).toList = [112, 111, 114, 116, 115] by rw [ByteArray.toList_eq]] at hpt
  have S1 := (S.newBlk #[.string o.k, .string o.p, .string o.r, .int .u16 (o.lo : Int), .int .u16 (o.hi : Int)] 37)
  unfold Ob.v
  go_enter Yba.func7, Yba.ntmps7
  go_wp2
  generalize hg : w.heap.size = g5 at *
  generalize (w.alloc (.cells #[.string o.k, .string o.p, .string o.r, .int .u16 (o.lo : Int), .int .u16 (o.hi : Int)] 37)) = W at *
  clear hg S
  have R1 : Rws W pg B vp L PL := S1.tail.head
  have hblk : W.heap[g5]? = _ := S1.head
  have c0 : W.cell? ⟨pg, 0, none⟩ = some (.map (some B)) := by simp [World.cell?, R1.blk]
  have o0 : W.cell? ⟨g5, 0, none⟩ = some (.string o.k) := by simp [World.cell?, hblk]
  have o1 : W.cell? ⟨g5, 1, none⟩ = some (.string o.p) := by simp [World.cell?, hblk]
  have o2 : W.cell? ⟨g5, 2, none⟩ = some (.string o.r) := by simp [World.cell?, hblk]
  have o3 : W.cell? ⟨g5, 3, none⟩ = some (.int .u16 (o.lo : Int)) := by simp [World.cell?, hblk]
  have o4 : W.cell? ⟨g5, 4, none⟩ = some (.int .u16 (o.hi : Int)) := by simp [World.cell?, hblk]
  obtain ⟨i37, hi37, hz37, hs37, hb37⟩ := info_parts Yba.info37
  by_cases hex : ∃ i, ∃ hi : i < L.length, L[i].o = o
  · obtain ⟨i, hi, hio⟩ := hex
    have hl : ∀ nq, (Instr.lookup 24 (.map (some B)) (.agg #[.string o.k, .string o.p, .string o.r, .int .u16 (o.lo : Int), .int .u16 (o.hi : Int)]) false).run Yba.prog (W.drewN nq) = .ok (.pointer (some ⟨L[i].f, 0, none⟩)) (W.drewN nq) := fun nq => (R1.drewN nq).look_at o ho i hi hio
    go_quiet (fail)
    have S5 := S1.tail.quiet ((Keeps.refl (fun _ => False) W).drewN nq)
    have hp : Pre o pt L PL L PL i := .inl ⟨hi, hio, rfl, rfl⟩
    clear hl c0 o0 o1 o2 o3 o4 hblk R1 S1
    generalize W.drewN nq = W5 at *
    have hf := (show Rws W5 pg B vp L PL from S5.head).fs L[i] (by simp)
    have c1 : W5.cell? ⟨L[i].f, 0, none⟩ = some (.int .i64 L[i].a) := by simp [World.cell?, hf]
    have c2 : W5.cell? ⟨L[i].f, 1, none⟩ = some (.int .i64 L[i].d) := by simp [World.cell?, hf]
    have f1 : W5.frozen? ⟨L[i].f, 0, none⟩ = false := by simp [World.frozen?, hf]
    have f2 : W5.frozen? ⟨L[i].f, 1, none⟩ = false := by simp [World.frozen?, hf]
    cases b with
    | true =>
      have S6 := S5.put1 i hi (bump true n L[i]) rfl rfl 0 (.int .i64 (lst L[i].a n)) rfl
      clear hf S5
      generalize hfE : L[i].f = ff at *
      generalize hfA : L[i].a = fa at *
      go_wp2_with fail
      refine (early_any _ fa n).mono ?_
      rintro r w6 ⟨rfl, rfl⟩
      go_wp2
      go_end0
      exact ⟨rfl, vp, L, PL, i, hp, S6⟩
    | false =>
      have S6 := S5.put1 i hi (bump false n L[i]) rfl rfl 1 (.int .i64 (lst L[i].d n)) rfl
      clear hf S5
      generalize hfE : L[i].f = ff at *
      generalize hfA : L[i].d = fa at *
      go_wp2_with fail
      refine (early_any _ fa n).mono ?_
      rintro r w6 ⟨rfl, rfl⟩
      go_wp2
      go_end0
      exact ⟨rfl, vp, L, PL, i, hp, S6⟩
  · have hn : ∀ x ∈ L, x.o ≠ o := fun x hx hxo => by
      obtain ⟨i, hi, rfl⟩ := List.getElem_of_mem hx
      exact hex ⟨i, hi, hxo⟩
    have hl : ∀ nq, (Instr.lookup 24 (.map (some B)) (.agg #[.string o.k, .string o.p, .string o.r, .int .u16 (o.lo : Int), .int .u16 (o.hi : Int)]) false).run Yba.prog (W.drewN nq) = .ok (.pointer none) (W.drewN nq) := fun nq => (R1.drewN nq).look_no o ho hn
    go_quiet (fail)
    have S2 := S1.quiet ((Keeps.refl (fun _ => False) W).drewN nq)
    clear hl c0 o0 o1 o2 o3 o4 hblk R1 S1 hex
    generalize W.drewN nq = W2 at *
    have S3 := S2.newBlk #[.int .i64 0, .int .i64 0] 45
    go_upto_region 4 with fail
    generalize hg : W2.heap.size = ff at *
    generalize (W2.alloc (.cells #[.int .i64 0, .int .i64 0] 45)) = W3 at *
    clear hg S2
    have R3 : Rws W3 pg B vp L PL := S3.tail.tail.head
    have hblk : W3.heap[g5]? = _ := S3.tail.head
    have c0 : W3.cell? ⟨pg, 0, none⟩ = some (.map (some B)) := by simp [World.cell?, R3.blk]
    have o0 : W3.cell? ⟨g5, 0, none⟩ = some (.string o.k) := by simp [World.cell?, hblk]
    have o1 : W3.cell? ⟨g5, 1, none⟩ = some (.string o.p) := by simp [World.cell?, hblk]
    have o2 : W3.cell? ⟨g5, 2, none⟩ = some (.string o.r) := by simp [World.cell?, hblk]
    have o3 : W3.cell? ⟨g5, 3, none⟩ = some (.int .u16 (o.lo : Int)) := by simp [World.cell?, hblk]
    have o4 : W3.cell? ⟨g5, 4, none⟩ = some (.int .u16 (o.hi : Int)) := by simp [World.cell?, hblk]
    have S3d := S3.quiet ((Keeps.refl (fun _ => False) W3).drew)
    obtain ⟨es', clock', hup, hes⟩ := (show Rws W3.drew pg B vp L PL from S3d.tail.tail.head).put o ho hn (.pointer (some ⟨ff, 0, none⟩))
    have S4 := (S3d.perm (List.Perm.cons _ (.swap _ _ _))).grow o ho hn (clock' := clock') hes
    unfold Ob.v at hup
    go_region
    generalize setBlock W3.drew B (.map es' clock') = W4 at *
    clear hup hes S3d S3 R3 c0 o0 o1 o2 o3 o4 hblk
    have S4' := S4.p2
    have hblk : W4.heap[g5]? = _ := S4'.head
    have o0 : W4.cell? ⟨g5, 0, none⟩ = some (.string o.k) := by simp [World.cell?, hblk]
    have hp : Pre o pt L PL (L ++ [⟨o, ff, 0, 0⟩]) (if pt then PL ++ [o] else PL) L.length := .inr ⟨hn, rfl, ⟨ff, rfl⟩, rfl⟩
    cases pt with
    | false =>
      obtain ⟨vp5, hvp5⟩ : ∃ v, v = vp := ⟨_, rfl⟩
      obtain ⟨PL5, hPL5⟩ : ∃ v, v = PL := ⟨_, rfl⟩
      have S5 : Sep w0 W4 (Res.rows pg B vp5 (L ++ [⟨o, ff, 0, 0⟩]) PL5 :: rs) := by subst hvp5; subst hPL5; exact S4'.tail
      have hp5 : Pre o false L PL (L ++ [⟨o, ff, 0, 0⟩]) PL5 L.length := by subst hPL5; exact hp
      clear hp
      clear S4 S4' hblk hvp5 hPL5
      generalize W4 = W5 at *
      have hi : L.length < (L ++ [(⟨o, ff, 0, 0⟩ : E)]).length := by simp
      have hL : (L ++ [(⟨o, ff, 0, 0⟩ : E)])[L.length] = ⟨o, ff, 0, 0⟩ := by simp
      have hf := (show Rws W5 pg B vp5 (L ++ [⟨o, ff, 0, 0⟩]) PL5 from S5.head).fs ⟨o, ff, 0, 0⟩ (by simp)
      have c1 : W5.cell? ⟨ff, 0, none⟩ = some (.int .i64 0) := by simp [World.cell?, hf]
      have c2 : W5.cell? ⟨ff, 1, none⟩ = some (.int .i64 0) := by simp [World.cell?, hf]
      have f1 : W5.frozen? ⟨ff, 0, none⟩ = false := by simp [World.frozen?, hf]
      have f2 : W5.frozen? ⟨ff, 1, none⟩ = false := by simp [World.frozen?, hf]
      clear hf
      cases b with
      | true =>
        have S6 := S5.put1 L.length hi (bump true n (L ++ [(⟨o, ff, 0, 0⟩ : E)])[L.length]) rfl rfl 0 (.int .i64 (lst 0 n)) (by rw [hL]; rfl)
        rw [show (L ++ [(⟨o, ff, 0, 0⟩ : E)])[L.length].f = ff by rw [hL]] at S6
        clear S5
        go_wp2_with fail
        refine (early_any _ 0 n).mono ?_
        rintro r w6 ⟨rfl, rfl⟩
        go_wp2
        go_end0
        exact ⟨rfl, vp5, _, PL5, L.length, hp5, S6⟩
      | false =>
        have S6 := S5.put1 L.length hi (bump false n (L ++ [(⟨o, ff, 0, 0⟩ : E)])[L.length]) rfl rfl 1 (.int .i64 (lst 0 n)) (by rw [hL]; rfl)
        rw [show (L ++ [(⟨o, ff, 0, 0⟩ : E)])[L.length].f = ff by rw [hL]] at S6
        clear S5
        go_wp2_with fail
        refine (early_any _ 0 n).mono ?_
        rintro r w6 ⟨rfl, rfl⟩
        go_wp2
        go_end0
        exact ⟨rfl, vp5, _, PL5, L.length, hp5, S6⟩
    | true =>
      have R4 : Rws W4 pg B vp (L ++ [⟨o, ff, 0, 0⟩]) PL := S4.head
      have o1 : W4.cell? ⟨g5, 1, none⟩ = some (.string o.p) := by simp [World.cell?, hblk]
      have o2 : W4.cell? ⟨g5, 2, none⟩ = some (.string o.r) := by simp [World.cell?, hblk]
      have o3 : W4.cell? ⟨g5, 3, none⟩ = some (.int .u16 (o.lo : Int)) := by simp [World.cell?, hblk]
      have o4 : W4.cell? ⟨g5, 4, none⟩ = some (.int .u16 (o.hi : Int)) := by simp [World.cell?, hblk]
      have c1 : W4.cell? ⟨pg, 1, none⟩ = some vp := by simp [World.cell?, R4.blk]
      have f1 : W4.frozen? ⟨pg, 1, none⟩ = false := by simp [World.frozen?, R4.blk]
      have S4q := S4'.tail.quiet (((Keeps.refl (fun _ => False) W4).alloc (.cells #[.string o.k, .string o.p, .string o.r, .int .u16 (o.lo : Int), .int .u16 (o.hi : Int)] 37)).drew)
      have R4q : Rws ((W4.alloc (.cells #[.string o.k, .string o.p, .string o.r, .int .u16 (o.lo : Int), .int .u16 (o.hi : Int)] 37)).drew) pg B vp (L ++ [⟨o, ff, 0, 0⟩]) PL := S4q.head
      have hso : Src ((W4.alloc (.cells #[.string o.k, .string o.p, .string o.r, .int .u16 (o.lo : Int), .int .u16 (o.hi : Int)] 37)).drew) 5 (.slice (some ⟨W4.heap.size, 0, none⟩) 1 1) 1 o.cells := Src.ob_new W4.drew o 37
      have R4a : Rws (W4.alloc (.cells #[.string o.k, .string o.p, .string o.r, .int .u16 (o.lo : Int), .int .u16 (o.hi : Int)] 37)) pg B vp (L ++ [⟨o, ff, 0, 0⟩]) PL := (Res.rows pg B vp (L ++ [({ o := o, f := ff, a := 0, d := 0 } : E)]) PL).keep W4 _ _ R4 ((Keeps.refl (fun _ => False) W4).alloc _) (fun _ _ h => h)
      have c1a : (W4.alloc (.cells #[.string o.k, .string o.p, .string o.r, .int .u16 (o.lo : Int), .int .u16 (o.hi : Int)] 37)).cell? ⟨pg, 1, none⟩ = some vp := by simp [World.cell?, R4a.blk]
      have f1a : (W4.alloc (.cells #[.string o.k, .string o.p, .string o.r, .int .u16 (o.lo : Int), .int .u16 (o.hi : Int)] 37)).frozen? ⟨pg, 1, none⟩ = false := by simp [World.frozen?, R4a.blk]
      go_upto_region 6 with fail
      refine wp_region_noPanic ?_
      go_region_law ((refine step_app rfl (.tmp 32) (.tmp 34) 25 rfl 37 i37 (.agg #[.string ⟨#[]⟩, .string ⟨#[]⟩, .string ⟨#[]⟩, .int .u16 0, .int .u16 0]) 5 56 Yba.underlying25 hi37 hz37 hs37 hb37 rfl (by omega) vp PL.length (PL.flatMap Ob.cells) rfl R4q.prt (.slice (some ⟨W4.heap.size, 0, none⟩) 1 1) rfl 1 o.cells hso (by unfold maxLen; omega) (by omega) ?_; intro x9 w9 hA9 hn9; obtain ⟨ao9, cp9, rfl⟩ := own_slice hA9.own; obtain ⟨g0, g1⟩ := Rws.after R4q hA9))
      all_goals
        have S5 := S4q.ports o ho hA9 rfl
        refine NoPanic.normal ?_
        clear S4 S4' S4q R4 R4q R4a hblk c1 f1 c1a f1a hso g0 g1 o0 o1 o2 o3 o4 hA9 hn9
        generalize (Value.slice ao9 (PL.length + 1) cp9) = vp5 at *
        generalize (w9.setCell ⟨pg, 1, none⟩ vp5) = W5 at *
        obtain ⟨PL5, hPL5⟩ : ∃ v, v = PL ++ [o] := ⟨_, rfl⟩
        have hp5 : Pre o true L PL (L ++ [⟨o, ff, 0, 0⟩]) PL5 L.length := by subst hPL5; exact hp
        clear hp
        rw [← hPL5] at S5
        clear hPL5
        have hi : L.length < (L ++ [(⟨o, ff, 0, 0⟩ : E)]).length := by simp
        have hL : (L ++ [(⟨o, ff, 0, 0⟩ : E)])[L.length] = ⟨o, ff, 0, 0⟩ := by simp
        have hf := (show Rws W5 pg B vp5 (L ++ [⟨o, ff, 0, 0⟩]) PL5 from S5.head).fs ⟨o, ff, 0, 0⟩ (by simp)
        have c1 : W5.cell? ⟨ff, 0, none⟩ = some (.int .i64 0) := by simp [World.cell?, hf]
        have c2 : W5.cell? ⟨ff, 1, none⟩ = some (.int .i64 0) := by simp [World.cell?, hf]
        have f1 : W5.frozen? ⟨ff, 0, none⟩ = false := by simp [World.frozen?, hf]
        have f2 : W5.frozen? ⟨ff, 1, none⟩ = false := by simp [World.frozen?, hf]
        clear hf
        cases b with
        | true =>
          have S6 := S5.put1 L.length hi (bump true n (L ++ [(⟨o, ff, 0, 0⟩ : E)])[L.length]) rfl rfl 0 (.int .i64 (lst 0 n)) (by rw [hL]; rfl)
          rw [show (L ++ [(⟨o, ff, 0, 0⟩ : E)])[L.length].f = ff by rw [hL]] at S6
          clear S5
          go_wp2_with fail
          refine (early_any _ 0 n).mono ?_
          rintro r w6 ⟨rfl, rfl⟩
          go_wp2
          go_end0
          exact ⟨rfl, vp5, _, PL5, L.length, hp5, S6⟩
        | false =>
          have S6 := S5.put1 L.length hi (bump false n (L ++ [(⟨o, ff, 0, 0⟩ : E)])[L.length]) rfl rfl 1 (.int .i64 (lst 0 n)) (by rw [hL]; rfl)
          rw [show (L ++ [(⟨o, ff, 0, 0⟩ : E)])[L.length].f = ff by rw [hL]] at S6
          clear S5
          go_wp2_with fail
          refine (early_any _ 0 n).mono ?_
          rintro r w6 ⟨rfl, rfl⟩
          go_wp2
          go_end0
          exact ⟨rfl, vp5, _, PL5, L.length, hp5, S6⟩
end Go.Proofs.Ybulkcdco
