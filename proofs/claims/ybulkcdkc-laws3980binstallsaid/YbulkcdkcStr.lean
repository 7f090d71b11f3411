import Derived.Test.YbulkcdkcSep
import Derived.Laws.Cover3
/-
  slices.Clone, Index, Contains, Equal over []string.
-/
namespace Go.Proofs.Ybulkcdkc
open Go.RowKit

theorem Yba.info9 : (Yba.prog.info? 9).map (fun i => (i.zero, i.size, i.bytes)) = some (some (.string ⟨#[]⟩), 1, 16) := by kernel_rfl
theorem strs_get (l : List ByteArray) (i : Nat) (h : i < l.length) : (strs l)[i]? = some (.string (l.getD i ⟨#[]⟩)) := by simp [strs, h]
/-- A slice that reads as strings. -/
abbrev Rd (w : World) (v : Value) (ss : List ByteArray) : Prop := w.ownsRow 0 9 1 v ss.length (strs ss)
theorem Rd.keep {w w' : World} {v : Value} {ss : List ByteArray} (h : Rd w v ss) (k : Keeps (fun _ => False) w w') : Rd w' v ss := k.own h (fun _ _ h => h)
theorem Rd.src {w : World} {v : Value} {ss : List ByteArray} (h : Rd w v ss) : Src w 1 v ss.length (strs ss) := by
  obtain ⟨a, c, rfl⟩ := own_sliceB h
  refine ⟨by simp [strs], fun u hu => ?_, a, c, rfl, fun ha => ?_, fun a0 ha j u hu => ?_⟩
  · obtain ⟨s, -, rfl⟩ := List.mem_map.1 hu; rfl
  · subst ha
    rcases h.2 with ⟨h', h0⟩ | ⟨g, cap, cur, h', _⟩
    · exact h0
    · cases h'
  · subst ha
    rcases h.2 with ⟨h', h0⟩ | ⟨g, cap, cur, h', _⟩
    · cases h'
    · cases h'
      exact h.cells (g := g) rfl j u hu

/-- Bytes alike. -/
def eqb (a b : ByteArray) : Bool := a.toList == b.toList
theorem eqb_iff {a b : ByteArray} : eqb a b = true ↔ a = b := by
  constructor
  · intro h
    by_cases e : a = b
    · exact e
    · have := bytes_ne e; unfold eqb at h; rw [this] at h; cases h
  · rintro rfl; unfold eqb; simp
theorem eqb_ne {a b : ByteArray} (h : a ≠ b) : eqb a b = false := bytes_ne h
def has (ss : List ByteArray) (x : ByteArray) : Bool := ss.any (eqb x)
theorem has_iff {ss : List ByteArray} {x : ByteArray} : has ss x = true ↔ x ∈ ss := by
  unfold has
  rw [List.any_eq_true]
  exact ⟨fun ⟨s, hs, e⟩ => by rw [eqb_iff.1 e]; exact hs, fun h => ⟨x, h, eqb_iff.2 rfl⟩⟩

theorem index_any {w : World} {v : Value} {ss : List ByteArray} (h : Rd w v ss) (x : ByteArray) (hl : ss.length ≤ 100000) :
    Calls Yba.prog 12 #[v, .string x] w fun r w' => ∃ z : Int, r = .returned (.int .i64 z) ∧ (0 ≤ z ↔ x ∈ ss) ∧ Keeps (fun _ => False) w w' := by
  obtain ⟨a, c, rfl⟩ := own_sliceB h
  obtain ⟨n, hn⟩ : ∃ n, ss.length = n := ⟨_, rfl⟩
  rw [hn] at hl
  go_enter Yba.func12, Yba.ntmps12
  go_wp2
  go_loopw [5, 8] (fun _ vi wx => ∃ i : Nat, i ≤ n ∧ vi = .int .i64 i ∧ (∀ j, j < i → ss.getD j ⟨#[]⟩ ≠ x) ∧ Keeps (fun _ => False) w wx) (fun _ vi _ => n - (intOf vi).toNat)
  case atStart => exact ⟨0, by omega, rfl, (fun j hj => by omega), Keeps.refl _ _⟩
  case round =>
    obtain ⟨i, hi, rfl, hne, hk⟩ := hrel
    have HNE := Hid.mk' hne
    clear hne
    by_cases hlt : i < n
    · have y0 : (i : Int) < (n : Int) := by omega
      have y1 : (0 : Int) ≤ (i : Int) := by omega
      obtain ⟨g, cap, hg, -, -, hcell⟩ := own_atB (h.keep hk) (by omega)
      injection hg with h1 _ h3
      subst h1
      subst h3
      have d0 : wr.cell? ⟨g, i, none⟩ = some (.string (ss.getD i ⟨#[]⟩)) := by rw [(hcell i (by omega)).1]; exact strs_get ss i (by omega)
      obtain ⟨s, hs⟩ : ∃ s, ss.getD i ⟨#[]⟩ = s := ⟨_, rfl⟩
      rw [hs] at d0
      have HS := Hid.mk' hs
      have hmem : s ∈ ss := by rw [← hs]; simp [show i < ss.length by omega]
      clear hcell hs
      by_cases hx : x = s
      · subst hx
        have HM := Hid.mk' hmem
        clear hmem
        go_wp2
        go_ret
        exact ⟨_, rfl, ⟨fun _ => HM.out, fun _ => by omega⟩, hk⟩
      · have hx' : (x.toList == s.toList) = false := bytes_ne hx
        clear hmem
        go_wp2
        go_roundw
        case rel =>
          refine ⟨i + 1, by omega, by go_num, fun j hj => ?_, hk⟩
          by_cases hji : j = i
          · subst hji; rw [HS.out]; exact fun e => hx e.symm
          · exact HNE.out j (by omega)
        case measure => simp [intOf]; omega
    · have hno : x ∉ ss := fun hm => by
        obtain ⟨j, hj, e⟩ := List.getElem_of_mem hm
        exact HNE.out j (by omega) (by simp [hj, e])
      have HNO := Hid.mk' hno
      clear hno
      go_wp2
      go_ret
      exact ⟨_, rfl, ⟨fun h => by omega, fun h => absurd h HNO.out⟩, hk⟩

theorem contains_any {w : World} {v : Value} {ss : List ByteArray} (h : Rd w v ss) (x : ByteArray) (hl : ss.length ≤ 100000) :
    Calls Yba.prog 9 #[v, .string x] w fun r w' => r = .returned (.bool (has ss x)) ∧ Keeps (fun _ => False) w w' := by
  go_enter Yba.func9, Yba.ntmps9
  go_wp2_with fail
  refine (index_any h x hl).mono ?_
  rintro r w1 ⟨z, rfl, hz, hk⟩
  by_cases hz0 : 0 ≤ z
  · have hm : has ss x = true := has_iff.2 (hz.1 hz0)
    go_wp2
    go_ret
    exact ⟨by rw [hm]; simp [hz0], hk⟩
  · have hm : has ss x = false := Bool.eq_false_iff.2 (fun h => hz0 (hz.2 (has_iff.1 h)))
    go_wp2
    go_ret
    exact ⟨by rw [hm]; simp [hz0], hk⟩

theorem equal_any {w : World} {v v' : Value} {ss : List ByteArray} (h : Rd w v ss) (h' : Rd w v' ss) (hl : ss.length ≤ 100000) :
    Calls Yba.prog 11 #[v, v'] w fun r w' => r = .returned (.bool true) ∧ Keeps (fun _ => False) w w' := by
  obtain ⟨a, c, rfl⟩ := own_sliceB h
  obtain ⟨a', c', rfl⟩ := own_sliceB h'
  obtain ⟨n, hn⟩ : ∃ n, ss.length = n := ⟨_, rfl⟩
  rw [hn] at hl
  go_enter Yba.func11, Yba.ntmps11
  go_wp2
  go_loopw [5, 13] (fun _ vi wx => ∃ i : Nat, i ≤ n ∧ vi = .int .i64 i ∧ Keeps (fun _ => False) w wx) (fun _ vi _ => n - (intOf vi).toNat)
  case atStart => exact ⟨0, by omega, rfl, Keeps.refl _ _⟩
  case round =>
    obtain ⟨i, hi, rfl, hk⟩ := hrel
    by_cases hlt : i < n
    · have y0 : (i : Int) < (n : Int) := by omega
      have y1 : (0 : Int) ≤ (i : Int) := by omega
      obtain ⟨g, cap, hg, -, -, hcell⟩ := own_atB (h.keep hk) (by omega)
      injection hg with h1 _ h3
      subst h1
      subst h3
      obtain ⟨g', cap', hg', -, -, hcell'⟩ := own_atB (h'.keep hk) (by omega)
      injection hg' with h1' _ h3'
      subst h1'
      subst h3'
      have d0 : wr.cell? ⟨g, i, none⟩ = some (.string (ss.getD i ⟨#[]⟩)) := by rw [(hcell i (by omega)).1]; exact strs_get ss i (by omega)
      have d1 : wr.cell? ⟨g', i, none⟩ = some (.string (ss.getD i ⟨#[]⟩)) := by rw [(hcell' i (by omega)).1]; exact strs_get ss i (by omega)
      generalize ss.getD i ⟨#[]⟩ = s at *
      clear hcell hcell'
      go_upto_region 6 with fail
      go_quiet (fail)
      have hk2 := hk.drewN nq
      go_wp2
      go_roundw
      case rel => exact ⟨i + 1, by omega, by go_num, hk2⟩
      case measure => simp [intOf]; omega
    · go_wp2
      go_ret
      exact ⟨rfl, hk⟩

theorem nil27 (a : Option Addr) (n c : Nat) (w : World) : (binOp .eql 27 (.slice a n c) (.slice none 0 0)).run Yba.prog w = .ok (.bool a.isNone) w := by
  have h : ∀ d : Nat, (Op.equalIn (d + 1) 27 (.slice a n c) (.slice none 0 0)).run Yba.prog w = .ok a.isNone w := fun d => run_equalIn_slice_nil w d 27 9 a n c Yba.underlying27
  simp only [binOp]
  simp [Op.equal, Op.maxDepth, h 9999]
theorem Sep.emptyAt {w0 w : World} {rs : List Res} (S : Sep w0 w rs) (e : TypeId) : Sep w0 (w.alloc (.cells #[] e)) (Res.row e 1 (.slice (some ⟨w.heap.size, 0, none⟩) 0 0) 0 [] :: rs) := S.madeAt e #[] 1 0 rfl (by omega) rfl

set_option maxRecDepth 100000 in
theorem clone_any {w0 w : World} {v : Value} {ss : List ByteArray} {rs : List Res} (S : Sep w0 w rs) (h : Rd w v ss) (hl : ss.length ≤ 100000) :
    Calls Yba.prog 7 #[v] w fun r w' => ∃ v', r = .returned v' ∧ Sep w0 w' (Res.row 9 1 v' ss.length (strs ss) :: rs) := by
  obtain ⟨i9, hi9, hz9, hs9, hb9⟩ := info_parts Yba.info9
  obtain ⟨a, c, rfl⟩ := own_sliceB h
  have hnil := nil27 a ss.length c
  cases a with
  | none =>
    have h0 : ss = [] := by
      rcases h.2 with ⟨h', h0⟩ | ⟨g, cap, cur, h', _⟩
      · exact List.eq_nil_of_length_eq_zero h0
      · cases h'
    obtain rfl : c = 0 := by
      rcases h.2 with ⟨h', _⟩ | ⟨g, cap, cur, h', _⟩
      · injection h'
      · cases h'
    subst h0
    have S1 := S.nilRow 9 1
    have hnil := nil27 none 0 0
    show Calls Yba.prog 7 #[.slice none 0 0] w _
    go_enter Yba.func7, Yba.ntmps7
    go_wp2
    go_ret
    exact ⟨_, rfl, S1⟩
  | some a0 =>
    obtain ⟨n, hn⟩ : ∃ n, ss.length = n := ⟨_, rfl⟩
    have S1 := S.emptyAt 9
    have hO : World.ownsRow _ 0 9 1 _ 0 [] := S1.head
    have hsrc := (h.keep ((Keeps.refl (fun _ => False) w).alloc (.cells #[] 9))).src
    rw [hn] at hnil hl hsrc
    simp only [hn]
    go_enter Yba.func7, Yba.ntmps7
    go_wp2_with (at_builtin; refine wpList_app _ rfl (.tmp 5) (.tmp 6) 27 rfl 9 i9 (.string ⟨#[]⟩) 1 16 Yba.underlying27 hi9 hz9 hs9 hb9 rfl (by omega) (.slice (some ⟨w.heap.size, 0, none⟩) 0 0) 0 [] rfl hO n (strs ss) hsrc (by unfold maxLen; omega) (by omega) ?_; intro v1 w1 hA hn1)
    have S2 := S1.app hA
    rw [Nat.zero_add, List.nil_append] at S2
    go_ret
    exact ⟨_, rfl, S2⟩
end Go.Proofs.Ybulkcdkc
