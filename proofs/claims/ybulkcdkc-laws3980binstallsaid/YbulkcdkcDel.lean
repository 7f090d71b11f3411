import Derived.Test.YbulkcdkcStr
/-
  slices.IndexFunc, slices.DeleteFunc over []string.
-/
namespace Go.Proofs.Ybulkcdkc
open Go.RowKit

theorem Sep.setCells {w0 : World} {e : TypeId} {g n c : Nat} {rs : List Res} : ∀ (vs : List Value) (o : Nat) (w : World) (xs : List Value), Sep w0 w (Res.row e 1 (.slice (some ⟨g, 0, none⟩) n c) n xs :: rs) → ∃ xs', xs'.take o = xs.take o ∧ Sep w0 (w.setCells g o vs) (Res.row e 1 (.slice (some ⟨g, 0, none⟩) n c) n xs' :: rs)
  | [], o, w, xs, S => ⟨xs, rfl, S⟩
  | v :: vs, o, w, xs, S => by
    obtain ⟨xs', h1, S1⟩ := Sep.setCells vs (o + 1) _ _ (S.store o v)
    refine ⟨xs', ?_, S1⟩
    have h2 := congrArg (List.take o) h1
    rw [List.take_take, List.take_take, Nat.min_eq_left (by omega), List.take_set_of_le (Nat.le_refl o)] at h2
    exact h2
theorem zero9 : ∀ w, (zeroValue 9).run Yba.prog w = .ok (.string ⟨#[]⟩) w := by
  obtain ⟨i9, hi9, hz9, hs9, hb9⟩ := info_parts Yba.info9
  intro w
  simp [zeroValue, typeInfo, hi9, hz9]

/-- The deletion on its way: i places are kept out of the first j. -/
structure Dl (P : ByteArray → Bool) (ss cs : List ByteArray) (i j : Nat) : Prop where
  len : cs.length = ss.length
  lt : i < j
  le : j ≤ ss.length
  kept : cs.take i = (ss.take j).filter (fun x => !P x)
  rest : cs.drop j = ss.drop j
theorem Dl.get {P : ByteArray → Bool} {ss cs : List ByteArray} {i j : Nat} (h : Dl P ss cs i j) : cs[j]? = ss[j]? := by
  have := congrArg (fun l => l[0]?) h.rest
  simpa using this
theorem Dl.skip {P : ByteArray → Bool} {ss cs : List ByteArray} {i j : Nat} (h : Dl P ss cs i j) {x : ByteArray} (hx : ss[j]? = some x) (hp : P x = true) : Dl P ss cs i (j + 1) := by
  have hj := (List.getElem?_eq_some_iff.1 hx).1
  refine ⟨h.len, by have := h.lt; omega, hj, ?_, ?_⟩
  · rw [h.kept, List.take_add_one, hx, List.filter_append]; simp [hp]
  · have := congrArg (List.drop 1) h.rest; rwa [List.drop_drop, List.drop_drop] at this
theorem Dl.put {P : ByteArray → Bool} {ss cs : List ByteArray} {i j : Nat} (h : Dl P ss cs i j) {x : ByteArray} (hx : ss[j]? = some x) (hp : P x = false) : Dl P ss (cs.set i x) (i + 1) (j + 1) := by
  have hj := (List.getElem?_eq_some_iff.1 hx).1
  have hl := h.lt
  have hc := h.len
  refine ⟨by simp [hc], by omega, hj, ?_, ?_⟩
  · rw [List.take_add_one, List.take_set_of_le (Nat.le_refl i), h.kept, List.take_add_one (l := ss), hx, List.filter_append]
    simp [hp, show i < cs.length by omega]
  · have := congrArg (List.drop 1) h.rest
    rw [List.drop_drop, List.drop_drop] at this
    rw [List.drop_set_of_lt (by omega)]; exact this
theorem Dl.start {P : ByteArray → Bool} {ss : List ByteArray} {i : Nat} (hi : i < ss.length) (hp : P (ss.getD i ⟨#[]⟩) = true) (hn : ∀ j, j < i → P (ss.getD j ⟨#[]⟩) = false) : Dl P ss ss i (i + 1) := by
  refine ⟨rfl, by omega, hi, ?_, rfl⟩
  have hx : ss[i]? = some (ss.getD i ⟨#[]⟩) := by simp [hi]
  rw [List.take_add_one, hx, List.filter_append]
  have h1 : (ss.take i).filter (fun x => !P x) = ss.take i := by
    apply List.filter_eq_self.2
    intro a ha
    obtain ⟨j, hj, e⟩ := List.getElem_of_mem ha
    simp only [List.length_take] at hj
    have := hn j (by omega)
    rw [← e, List.getElem_take]
    have h2 : ss.getD j ⟨#[]⟩ = ss[j] := by simp [show j < ss.length by omega]
    rw [h2] at this
    simp [this]
  rw [h1]
  simp only [Option.toList_some, List.filter_cons, hp, Bool.not_true]
  simp
theorem Dl.fin {P : ByteArray → Bool} {ss cs : List ByteArray} {i j : Nat} (h : Dl P ss cs i j) (hj : j = ss.length) : cs.take i = ss.filter (fun x => !P x) := by
  rw [h.kept, hj, List.take_length]

section
variable {w0 w : World} {v : Value} {ss : List ByteArray} {rs : List Res} {p q : Value} {P : ByteArray → Bool}

set_option maxRecDepth 100000 in
theorem indexf1_any (S : Sep w0 w (Res.row 9 1 v ss.length (strs ss) :: rs)) (hl : ss.length ≤ 100000) (hf : ∀ w', Sep w0 w' rs → ∀ x ∈ ss, Calls Yba.prog 26 #[.string x, p] w' fun r w'' => r = .returned (.bool (P x)) ∧ Keeps (fun _ => False) w' w'') :
    Calls Yba.prog 24 #[v, .func (.func 26) #[] #[p]] w fun r w' => ∃ z : Int, r = .returned (.int .i64 z) ∧ ((z = -1 ∧ ∀ x ∈ ss, P x = false) ∨ ∃ i : Nat, z = (i : Int) ∧ i < ss.length ∧ P (ss.getD i ⟨#[]⟩) = true ∧ ∀ j, j < i → P (ss.getD j ⟨#[]⟩) = false) ∧ Keeps (fun _ => False) w w' := by
  obtain ⟨n, hn⟩ : ∃ n, ss.length = n := ⟨_, rfl⟩
  rw [hn] at hl S
  have h : w.ownsRow 0 9 1 v n (strs ss) := S.head
  obtain ⟨a, c, rfl⟩ := own_sliceB h
  have HF := Hid.mk' hf
  have HN := Hid.mk' hn
  clear hf hn
  go_enter Yba.func24, Yba.ntmps24
  go_wp2
  go_loopw [5, 8] (fun _ vi wx => ∃ i : Nat, i ≤ n ∧ vi = .int .i64 i ∧ (∀ j, j < i → P (ss.getD j ⟨#[]⟩) = false) ∧ Keeps (fun _ => False) w wx) (fun _ vi _ => n - (intOf vi).toNat)
  case atStart => exact ⟨0, by omega, rfl, (fun j hj => by omega), Keeps.refl _ _⟩
  case round =>
    obtain ⟨i, hi, rfl, hne, hk⟩ := hrel
    have HNE := Hid.mk' hne
    clear hne
    by_cases hlt : i < n
    · have y0 : (i : Int) < (n : Int) := by omega
      have y1 : (0 : Int) ≤ (i : Int) := by omega
      have hsl := HN.out
      obtain ⟨g, cap, hg, -, -, hcell⟩ := own_atB (hk.own h (fun _ _ h => h)) (by omega)
      injection hg with h1 _ h3
      subst h1
      subst h3
      have d0 : wr.cell? ⟨g, i, none⟩ = some (.string (ss.getD i ⟨#[]⟩)) := by rw [(hcell i (by omega)).1]; exact strs_get ss i (by omega)
      obtain ⟨s, hs⟩ : ∃ s, ss.getD i ⟨#[]⟩ = s := ⟨_, rfl⟩
      rw [hs] at d0
      have HS := Hid.mk' hs
      clear hcell hs hsl
      go_wp2_with fail
      have hm := HF.out wr (S.quiet hk).tail s (by rw [← HS.out]; simp [show i < ss.length by have := HN.out; omega])
      obtain ⟨b, hP⟩ : ∃ b, P s = b := ⟨_, rfl⟩
      rw [hP] at hm
      refine hm.mono ?_
      rintro r w1 ⟨rfl, hk1⟩
      have hk2 := hk.trans hk1 (fun _ _ h => h)
      clear d0 hm
      cases b with
      | true =>
        have HP := Hid.mk' hP
        clear hP
        go_wp2
        go_ret
        exact ⟨_, rfl, .inr ⟨i, rfl, by have := HN.out; omega, by rw [HS.out]; exact HP.out, HNE.out⟩, hk2⟩
      | false =>
        have HP := Hid.mk' hP
        clear hP
        go_wp2
        go_roundw
        case rel =>
          refine ⟨i + 1, by omega, by go_num, fun j hj => ?_, hk2⟩
          by_cases hji : j = i
          · subst hji; rw [HS.out]; exact HP.out
          · exact HNE.out j (by omega)
        case measure => simp [intOf]; omega
    · have hno : ∀ x ∈ ss, P x = false := fun x hm => by
        obtain ⟨j, hj, e⟩ := List.getElem_of_mem hm
        have := HNE.out j (by have := HN.out; omega)
        simpa [hj, e] using this
      have HNO := Hid.mk' hno
      clear hno
      go_wp2
      go_ret
      exact ⟨_, rfl, .inl ⟨rfl, HNO.out⟩, hk⟩

set_option maxHeartbeats 1600000 in
set_option maxRecDepth 100000 in
theorem delf1_any (S : Sep w0 w (Res.row 9 1 v ss.length (strs ss) :: rs)) (hl : ss.length ≤ 100000) (hf : ∀ w', Sep w0 w' rs → ∀ x ∈ ss, Calls Yba.prog 26 #[.string x, p] w' fun r w'' => r = .returned (.bool (P x)) ∧ Keeps (fun _ => False) w' w'') :
    Calls Yba.prog 18 #[v, .func (.func 26) #[] #[p]] w fun r w' => ∃ v', r = .returned v' ∧ Sep w0 w' (Res.row 9 1 v' (ss.filter (fun x => !P x)).length (strs (ss.filter (fun x => !P x))) :: rs) := by
  have hidx := indexf1_any S hl hf
  obtain ⟨n, hn⟩ : ∃ n, ss.length = n := ⟨_, rfl⟩
  rw [hn] at S hl hidx
  have h : w.ownsRow 0 9 1 v n (strs ss) := S.head
  obtain ⟨a, c, rfl⟩ := own_sliceB h
  have HF := Hid.mk' hf
  have HN := Hid.mk' hn
  clear hf h hn
  go_enter Yba.func18, Yba.ntmps18
  go_wp2_with fail
  refine hidx.mono ?_
  rintro r w1 ⟨z, rfl, hz, hk⟩
  clear hidx
  have S1 := S.quiet hk
  clear S hk
  rcases hz with ⟨rfl, hall⟩ | ⟨i0, rfl, hi0, hp0, hno⟩
  · have hfl : ss.filter (fun x => !P x) = ss := List.filter_eq_self.2 (fun x hx => by simp [hall x hx])
    have HFL := Hid.mk' hfl
    clear hfl hall
    go_wp2
    go_ret
    exact ⟨_, rfl, by rw [HFL.out, HN.out]; exact S1⟩
  · obtain ⟨g, cap, hg, hnc, hcm, -⟩ := own_atB (show w1.ownsRow 0 9 1 (.slice a n c) n (strs ss) from S1.head) (by omega)
    injection hg with h1 _ h3
    subst h1
    subst h3
    have hD := Dl.start (P := P) (by have := HN.out; omega) hp0 hno
    have x1 : ((i0 : Int) == -1) = false := by simp
    clear hp0 hno
    go_wp2
    go_loopw [5, 6, 7] (fun vi vj _ wx => ∃ (i j : Nat) (cs : List ByteArray), vi = .int .i64 i ∧ vj = .int .i64 j ∧ Dl P ss cs i j ∧ Sep w0 wx (Res.row 9 1 (.slice (some ⟨g, 0, none⟩) n c) n (strs cs) :: rs)) (fun _ vj _ _ => n - (intOf vj).toNat)
    case atStart => exact ⟨i0, i0 + 1, ss, rfl, by go_num, hD, S1⟩
    case round =>
      clear S1 hD
      obtain ⟨i, j, cs, rfl, rfl, hD, S⟩ := hrel
      have hij := hD.lt
      have hjn := hD.le
      have hcl := hD.len
      rw [HN.out] at hjn hcl
      have HD := Hid.mk' hD
      clear hD
      by_cases hlt : j < n
      · have y0 : (j : Int) < (n : Int) := by omega
        have y1 : (0 : Int) ≤ (j : Int) := by omega
        have y2 : (i : Int) < (n : Int) := by omega
        have y3 : (0 : Int) ≤ (i : Int) := by omega
        have hrow : wr.ownsRow 0 9 1 (.slice (some ⟨g, 0, none⟩) n c) n (strs cs) := S.head
        obtain ⟨s, hs⟩ : ∃ s, ss[j]? = some s := ⟨ss[j]'(by have := HN.out; omega), by simp [show j < ss.length by have := HN.out; omega]⟩
        have hcs : cs[j]? = some s := HD.out.get.trans hs
        have d0 : wr.cell? ⟨g, j, none⟩ = some (.string s) := own_cell hrow (by simp [strs, hcs])
        have HS := Hid.mk' hs
        clear hrow hs hcs
        go_wp2_with fail
        have hm := HF.out wr S.tail s (List.mem_of_getElem? HS.out)
        obtain ⟨b, hP⟩ : ∃ b, P s = b := ⟨_, rfl⟩
        rw [hP] at hm
        refine hm.mono ?_
        rintro r w2 ⟨rfl, hk1⟩
        have S2 := S.quiet hk1
        clear d0 S hk1 hm
        cases b with
        | true =>
          have hD2 := HD.out.skip HS.out hP
          have HD2 := Hid.mk' hD2
          clear hD2 hP
          go_wp2
          go_roundw
          case rel => exact ⟨i, j + 1, cs, rfl, by go_num, HD2.out, S2⟩
          case measure => simp [intOf]; omega
        | false =>
          have hD2 := HD.out.put HS.out hP
          have HD2 := Hid.mk' hD2
          have hrow : w2.ownsRow 0 9 1 (.slice (some ⟨g, 0, none⟩) n c) n (strs cs) := S2.head
          have d1 : w2.cell? ⟨g, i, none⟩ = some (.string (cs.getD i ⟨#[]⟩)) := own_cell hrow (strs_get cs i (by omega))
          have f1 : w2.frozen? ⟨g, i, none⟩ = false := hrow.frozenAt i
          have S3 := S2.store i (.string s)
          rw [show (strs cs).set i (.string s) = strs (cs.set i s) by unfold strs; rw [List.map_set]] at S3
          clear hD2 hP hrow S2
          go_wp2
          go_roundw
          case rel => exact ⟨i + 1, j + 1, cs.set i s, by go_num, by go_num, HD2.out, S3⟩
          case measure => simp [intOf]; omega
      · have hfin := HD.out.fin (by have := HN.out; omega)
        have HFIN := Hid.mk' hfin
        have hrow : wr.ownsRow 0 9 1 (.slice (some ⟨g, 0, none⟩) n c) n (strs cs) := S.head
        have hclr : ∀ ty, (Builtin.clear_ #[27] ty #[.slice (some ⟨g, i, none⟩) (n - i) (c - i)]).run Yba.prog wr = .ok (.tuple #[]) (wr.setCells g i (List.replicate (n - i) (.string ⟨#[]⟩))) :=
          fun ty => Lib.run_clear_slice wr _ _ ty _ Yba.underlying27 zero9 rfl rfl g i _ _ (by omega) (fun t ht => by rw [own_cell hrow (strs_get cs (i + t) (by omega))]; rfl) (fun t ht => hrow.frozenAt _)
        obtain ⟨xs', hx, S3⟩ := Sep.setCells (List.replicate (n - i) (.string ⟨#[]⟩)) i wr _ S
        have ho := own_takeB (show World.ownsRow _ 0 9 1 (.slice (some ⟨g, 0, none⟩) n c) n xs' from S3.head) i (by omega)
        have hfl : (ss.filter (fun x => !P x)).length = i := by rw [← hfin, List.length_take]; omega
        have e : xs'.take i = strs (ss.filter (fun x => !P x)) := by rw [hx, ← hfin]; unfold strs; rw [List.map_take]
        rw [e] at ho
        have S4 := S3.upd1 (r' := Res.row 9 1 (.slice (some ⟨g, 0, none⟩) i c) i (strs (ss.filter (fun x => !P x)))) ho (Keeps.refl _ _) (fun b hb => .inl (by simp [Res.row, Value.ownBlock] at hb ⊢; exact hb))
        have HS4 := Hid.mk' S4
        have HFL := Hid.mk' hfl
        have z0 : (i : Int) ≤ (n : Int) := by omega
        have z1 : (0 : Int) ≤ (i : Int) := by omega
        have z2 : (i : Int) ≤ (c : Int) := by omega
        have z3 : (n : Int) ≤ (c : Int) := by omega
        have z4 : (n : Int) - (i : Int) = ((n - i : Nat) : Int) := by omega
        have z5 : ¬ i = c := by omega
        clear hfin hrow S S3 S4 ho e hfl hx
        go_wp2
        go_ret
        exact ⟨_, rfl, by rw [HFL.out]; exact HS4.out⟩

set_option maxRecDepth 100000 in
theorem indexf2_any (S : Sep w0 w (Res.row 9 1 v ss.length (strs ss) :: rs)) (hl : ss.length ≤ 100000) (hf : ∀ w', Sep w0 w' rs → ∀ x ∈ ss, Calls Yba.prog 19 #[.string x, p, q] w' fun r w'' => r = .returned (.bool (P x)) ∧ Keeps (fun _ => False) w' w'') :
    Calls Yba.prog 24 #[v, .func (.func 19) #[] #[p, q]] w fun r w' => ∃ z : Int, r = .returned (.int .i64 z) ∧ ((z = -1 ∧ ∀ x ∈ ss, P x = false) ∨ ∃ i : Nat, z = (i : Int) ∧ i < ss.length ∧ P (ss.getD i ⟨#[]⟩) = true ∧ ∀ j, j < i → P (ss.getD j ⟨#[]⟩) = false) ∧ Keeps (fun _ => False) w w' := by
  obtain ⟨n, hn⟩ : ∃ n, ss.length = n := ⟨_, rfl⟩
  rw [hn] at hl S
  have h : w.ownsRow 0 9 1 v n (strs ss) := S.head
  obtain ⟨a, c, rfl⟩ := own_sliceB h
  have HF := Hid.mk' hf
  have HN := Hid.mk' hn
  clear hf hn
  go_enter Yba.func24, Yba.ntmps24
  go_wp2
  go_loopw [5, 8] (fun _ vi wx => ∃ i : Nat, i ≤ n ∧ vi = .int .i64 i ∧ (∀ j, j < i → P (ss.getD j ⟨#[]⟩) = false) ∧ Keeps (fun _ => False) w wx) (fun _ vi _ => n - (intOf vi).toNat)
  case atStart => exact ⟨0, by omega, rfl, (fun j hj => by omega), Keeps.refl _ _⟩
  case round =>
    obtain ⟨i, hi, rfl, hne, hk⟩ := hrel
    have HNE := Hid.mk' hne
    clear hne
    by_cases hlt : i < n
    · have y0 : (i : Int) < (n : Int) := by omega
      have y1 : (0 : Int) ≤ (i : Int) := by omega
      have hsl := HN.out
      obtain ⟨g, cap, hg, -, -, hcell⟩ := own_atB (hk.own h (fun _ _ h => h)) (by omega)
      injection hg with h1 _ h3
      subst h1
      subst h3
      have d0 : wr.cell? ⟨g, i, none⟩ = some (.string (ss.getD i ⟨#[]⟩)) := by rw [(hcell i (by omega)).1]; exact strs_get ss i (by omega)
      obtain ⟨s, hs⟩ : ∃ s, ss.getD i ⟨#[]⟩ = s := ⟨_, rfl⟩
      rw [hs] at d0
      have HS := Hid.mk' hs
      clear hcell hs hsl
      go_wp2_with fail
      have hm := HF.out wr (S.quiet hk).tail s (by rw [← HS.out]; simp [show i < ss.length by have := HN.out; omega])
      obtain ⟨b, hP⟩ : ∃ b, P s = b := ⟨_, rfl⟩
      rw [hP] at hm
      refine hm.mono ?_
      rintro r w1 ⟨rfl, hk1⟩
      have hk2 := hk.trans hk1 (fun _ _ h => h)
      clear d0 hm
      cases b with
      | true =>
        have HP := Hid.mk' hP
        clear hP
        go_wp2
        go_ret
        exact ⟨_, rfl, .inr ⟨i, rfl, by have := HN.out; omega, by rw [HS.out]; exact HP.out, HNE.out⟩, hk2⟩
      | false =>
        have HP := Hid.mk' hP
        clear hP
        go_wp2
        go_roundw
        case rel =>
          refine ⟨i + 1, by omega, by go_num, fun j hj => ?_, hk2⟩
          by_cases hji : j = i
          · subst hji; rw [HS.out]; exact HP.out
          · exact HNE.out j (by omega)
        case measure => simp [intOf]; omega
    · have hno : ∀ x ∈ ss, P x = false := fun x hm => by
        obtain ⟨j, hj, e⟩ := List.getElem_of_mem hm
        have := HNE.out j (by have := HN.out; omega)
        simpa [hj, e] using this
      have HNO := Hid.mk' hno
      clear hno
      go_wp2
      go_ret
      exact ⟨_, rfl, .inl ⟨rfl, HNO.out⟩, hk⟩

set_option maxHeartbeats 1600000 in
set_option maxRecDepth 100000 in
theorem delf2_any (S : Sep w0 w (Res.row 9 1 v ss.length (strs ss) :: rs)) (hl : ss.length ≤ 100000) (hf : ∀ w', Sep w0 w' rs → ∀ x ∈ ss, Calls Yba.prog 19 #[.string x, p, q] w' fun r w'' => r = .returned (.bool (P x)) ∧ Keeps (fun _ => False) w' w'') :
    Calls Yba.prog 18 #[v, .func (.func 19) #[] #[p, q]] w fun r w' => ∃ v', r = .returned v' ∧ Sep w0 w' (Res.row 9 1 v' (ss.filter (fun x => !P x)).length (strs (ss.filter (fun x => !P x))) :: rs) := by
  have hidx := indexf2_any S hl hf
  obtain ⟨n, hn⟩ : ∃ n, ss.length = n := ⟨_, rfl⟩
  rw [hn] at S hl hidx
  have h : w.ownsRow 0 9 1 v n (strs ss) := S.head
  obtain ⟨a, c, rfl⟩ := own_sliceB h
  have HF := Hid.mk' hf
  have HN := Hid.mk' hn
  clear hf h hn
  go_enter Yba.func18, Yba.ntmps18
  go_wp2_with fail
  refine hidx.mono ?_
  rintro r w1 ⟨z, rfl, hz, hk⟩
  clear hidx
  have S1 := S.quiet hk
  clear S hk
  rcases hz with ⟨rfl, hall⟩ | ⟨i0, rfl, hi0, hp0, hno⟩
  · have hfl : ss.filter (fun x => !P x) = ss := List.filter_eq_self.2 (fun x hx => by simp [hall x hx])
    have HFL := Hid.mk' hfl
    clear hfl hall
    go_wp2
    go_ret
    exact ⟨_, rfl, by rw [HFL.out, HN.out]; exact S1⟩
  · obtain ⟨g, cap, hg, hnc, hcm, -⟩ := own_atB (show w1.ownsRow 0 9 1 (.slice a n c) n (strs ss) from S1.head) (by omega)
    injection hg with h1 _ h3
    subst h1
    subst h3
    have hD := Dl.start (P := P) (by have := HN.out; omega) hp0 hno
    have x1 : ((i0 : Int) == -1) = false := by simp
    clear hp0 hno
    go_wp2
    go_loopw [5, 6, 7] (fun vi vj _ wx => ∃ (i j : Nat) (cs : List ByteArray), vi = .int .i64 i ∧ vj = .int .i64 j ∧ Dl P ss cs i j ∧ Sep w0 wx (Res.row 9 1 (.slice (some ⟨g, 0, none⟩) n c) n (strs cs) :: rs)) (fun _ vj _ _ => n - (intOf vj).toNat)
    case atStart => exact ⟨i0, i0 + 1, ss, rfl, by go_num, hD, S1⟩
    case round =>
      clear S1 hD
      obtain ⟨i, j, cs, rfl, rfl, hD, S⟩ := hrel
      have hij := hD.lt
      have hjn := hD.le
      have hcl := hD.len
      rw [HN.out] at hjn hcl
      have HD := Hid.mk' hD
      clear hD
      by_cases hlt : j < n
      · have y0 : (j : Int) < (n : Int) := by omega
        have y1 : (0 : Int) ≤ (j : Int) := by omega
        have y2 : (i : Int) < (n : Int) := by omega
        have y3 : (0 : Int) ≤ (i : Int) := by omega
        have hrow : wr.ownsRow 0 9 1 (.slice (some ⟨g, 0, none⟩) n c) n (strs cs) := S.head
        obtain ⟨s, hs⟩ : ∃ s, ss[j]? = some s := ⟨ss[j]'(by have := HN.out; omega), by simp [show j < ss.length by have := HN.out; omega]⟩
        have hcs : cs[j]? = some s := HD.out.get.trans hs
        have d0 : wr.cell? ⟨g, j, none⟩ = some (.string s) := own_cell hrow (by simp [strs, hcs])
        have HS := Hid.mk' hs
        clear hrow hs hcs
        go_wp2_with fail
        have hm := HF.out wr S.tail s (List.mem_of_getElem? HS.out)
        obtain ⟨b, hP⟩ : ∃ b, P s = b := ⟨_, rfl⟩
        rw [hP] at hm
        refine hm.mono ?_
        rintro r w2 ⟨rfl, hk1⟩
        have S2 := S.quiet hk1
        clear d0 S hk1 hm
        cases b with
        | true =>
          have hD2 := HD.out.skip HS.out hP
          have HD2 := Hid.mk' hD2
          clear hD2 hP
          go_wp2
          go_roundw
          case rel => exact ⟨i, j + 1, cs, rfl, by go_num, HD2.out, S2⟩
          case measure => simp [intOf]; omega
        | false =>
          have hD2 := HD.out.put HS.out hP
          have HD2 := Hid.mk' hD2
          have hrow : w2.ownsRow 0 9 1 (.slice (some ⟨g, 0, none⟩) n c) n (strs cs) := S2.head
          have d1 : w2.cell? ⟨g, i, none⟩ = some (.string (cs.getD i ⟨#[]⟩)) := own_cell hrow (strs_get cs i (by omega))
          have f1 : w2.frozen? ⟨g, i, none⟩ = false := hrow.frozenAt i
          have S3 := S2.store i (.string s)
          rw [show (strs cs).set i (.string s) = strs (cs.set i s) by unfold strs; rw [List.map_set]] at S3
          clear hD2 hP hrow S2
          go_wp2
          go_roundw
          case rel => exact ⟨i + 1, j + 1, cs.set i s, by go_num, by go_num, HD2.out, S3⟩
          case measure => simp [intOf]; omega
      · have hfin := HD.out.fin (by have := HN.out; omega)
        have HFIN := Hid.mk' hfin
        have hrow : wr.ownsRow 0 9 1 (.slice (some ⟨g, 0, none⟩) n c) n (strs cs) := S.head
        have hclr : ∀ ty, (Builtin.clear_ #[27] ty #[.slice (some ⟨g, i, none⟩) (n - i) (c - i)]).run Yba.prog wr = .ok (.tuple #[]) (wr.setCells g i (List.replicate (n - i) (.string ⟨#[]⟩))) :=
          fun ty => Lib.run_clear_slice wr _ _ ty _ Yba.underlying27 zero9 rfl rfl g i _ _ (by omega) (fun t ht => by rw [own_cell hrow (strs_get cs (i + t) (by omega))]; rfl) (fun t ht => hrow.frozenAt _)
        obtain ⟨xs', hx, S3⟩ := Sep.setCells (List.replicate (n - i) (.string ⟨#[]⟩)) i wr _ S
        have ho := own_takeB (show World.ownsRow _ 0 9 1 (.slice (some ⟨g, 0, none⟩) n c) n xs' from S3.head) i (by omega)
        have hfl : (ss.filter (fun x => !P x)).length = i := by rw [← hfin, List.length_take]; omega
        have e : xs'.take i = strs (ss.filter (fun x => !P x)) := by rw [hx, ← hfin]; unfold strs; rw [List.map_take]
        rw [e] at ho
        have S4 := S3.upd1 (r' := Res.row 9 1 (.slice (some ⟨g, 0, none⟩) i c) i (strs (ss.filter (fun x => !P x)))) ho (Keeps.refl _ _) (fun b hb => .inl (by simp [Res.row, Value.ownBlock] at hb ⊢; exact hb))
        have HS4 := Hid.mk' S4
        have HFL := Hid.mk' hfl
        have z0 : (i : Int) ≤ (n : Int) := by omega
        have z1 : (0 : Int) ≤ (i : Int) := by omega
        have z2 : (i : Int) ≤ (c : Int) := by omega
        have z3 : (n : Int) ≤ (c : Int) := by omega
        have z4 : (n : Int) - (i : Int) = ((n - i : Nat) : Int) := by omega
        have z5 : ¬ i = c := by omega
        clear hfin hrow S S3 S4 ho e hfl hx
        go_wp2
        go_ret
        exact ⟨_, rfl, by rw [HFL.out]; exact HS4.out⟩
end
end Go.Proofs.Ybulkcdkc
