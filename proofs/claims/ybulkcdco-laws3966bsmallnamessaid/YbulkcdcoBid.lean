import Derived.Test.YbulkcdcoStep
namespace Go.Proofs.Ybulkcdco
open Go.RowKit

def strs (l : List ByteArray) : List Value := l.map Value.string
theorem strs_len (l : List ByteArray) : (strs l).length = l.length := by simp [strs]
theorem strs_append (a b : List ByteArray) : strs (a ++ b) = strs a ++ strs b := by simp [strs]
theorem Yba.info9 : (Yba.prog.info? 9).map (fun i => (i.zero, i.size, i.bytes)) = some (some (.string ⟨#[]⟩), 1, 16) := by kernel_rfl

theorem bytes_ne {a b : ByteArray} (h : a ≠ b) : (a.toList == b.toList) = false := by
  rw [ByteArray.toList_eq, ByteArray.toList_eq]
  refine beq_eq_false_iff_ne.2 (fun e => h ?_)
  cases a; cases b
  congr
  exact Array.ext' e

set_option maxHeartbeats 1600000 in
theorem bid_any {w0 w : World} {bn : Nat} {vn : Value} {names : List ByteArray} {rs : List Res} (S : Sep w0 w (Res.blk bn #[vn] 72 :: Res.row 9 1 vn names.length (strs names) :: rs)) (s : ByteArray) (hn : names.length ≤ 100000) :
    Calls Yba.prog 20 #[.string s, .pointer (some ⟨bn, 0, none⟩)] w fun r w' => ∃ (i : Nat) (names' : List ByteArray) (vn' : Value), r = .returned (.int .i64 (i : Int)) ∧ names'[i]? = some s ∧ (names' = names ∨ (s ∉ names ∧ names' = names ++ [s])) ∧
      Sep w0 w' (Res.blk bn #[vn'] 72 :: Res.row 9 1 vn' names'.length (strs names') :: rs) := by
  obtain ⟨i9, hi9, hz9, hs9, hb9⟩ := info_parts Yba.info9
  obtain ⟨an, cn, hvn⟩ := own_sliceB (show w.ownsRow 0 9 1 vn names.length (strs names) from S.tail.head)
  subst hvn
  go_enter Yba.func20, Yba.ntmps20
  go_wp2
  go_loopw [4] (fun vi wx => ∃ q : Nat, q ≤ names.length ∧ vi = .int .i64 q ∧ (∀ t, (ht : t < names.length) → t < q → names[t] ≠ s) ∧ Sep w0 wx (Res.blk bn #[.slice an names.length cn] 72 :: Res.row 9 1 (.slice an names.length cn) names.length (strs names) :: rs)) (fun vi _ => names.length - (intOf vi).toNat)
  case atStart => exact ⟨0, by omega, rfl, (fun t _ h => by omega), S⟩
  case round =>
    clear S
    obtain ⟨q, hq, rfl, hne, S⟩ := hrel
    have hb : wr.heap[bn]? = _ := S.head
    have c0 : wr.cell? ⟨bn, 0, none⟩ = some (.slice an names.length cn) := cell_of_row wr bn 0 _ 72 (0, 0) hb
    by_cases hlt : q < names.length
    · have y0 : (q : Int) < (names.length : Int) := by omega
      have y1 : (0 : Int) ≤ (q : Int) := by omega
      obtain ⟨g, cap, hg, -, -, hcell⟩ := own_atB (show wr.ownsRow 0 9 1 (.slice an names.length cn) names.length (strs names) from S.tail.head) (by omega)
      injection hg with h1 _ h3
      subst h1
      subst h3
      have d0 : wr.cell? ⟨g, q, none⟩ = some (.string names[q]) := by rw [(hcell q hlt).1]; simp [strs, hlt]
      clear hcell hb
      by_cases he : names[q] = s
      · have he' : (names[q].toList == s.toList) = true := by rw [he]; simp
        have HE := Hid.mk' (show names[q]? = some s by rw [List.getElem?_eq_getElem hlt, he])
        generalize names[q] = nq at *
        clear he hne
        go_wp2
        go_ret
        exact ⟨q, rfl, names, HE.out, .inl rfl, _, S⟩
      · have he' : (names[q].toList == s.toList) = false := bytes_ne he
        have HE := Hid.mk' he
        generalize names[q] = nq at d0 he'
        clear he
        go_wp2
        go_roundw
        case rel => exact ⟨q + 1, by omega, by go_num, (fun t ht h => by
          by_cases e : t = q
          · subst e; exact HE.out
          · exact hne t ht (by omega)), S⟩
        case measure => simp [intOf]; omega
    · obtain rfl : q = names.length := by omega
      have hnm : s ∉ names := fun hm => by
        obtain ⟨t, ht, e⟩ := List.getElem_of_mem hm
        exact hne t ht ht e
      have S2 := S.p2.quiet ((Keeps.refl (fun _ => False) wr).alloc (.cells #[.string s] 9))
      have hO : World.ownsRow _ 0 9 1 (.slice an names.length cn) names.length (strs names) := S2.head
      clear hb
      go_upto_region 7 with (at_builtin; refine wpList_app _ rfl (.tmp 18) (.tmp 20) 72 rfl 9 i9 (.string ⟨#[]⟩) 1 16 Yba.underlying72 hi9 hz9 hs9 hb9 rfl (by omega) (.slice an names.length cn) names.length (strs names) rfl hO 1 [.string s] (Src.one_new wr _ _ rfl) (by unfold maxLen; omega) (by omega) ?_; intro x7 w7 hA7 hn7; have S7 := S2.app hA7; have hb7 : w7.heap[bn]? = _ := S7.tail.head; have pc7 : w7.cell? ⟨bn, 0, none⟩ = some (.slice an names.length cn) := cell_of_row w7 bn 0 _ 72 (0, 0) hb7; have pf7 : w7.frozen? ⟨bn, 0, none⟩ = false := frozen_of_row w7 bn 0 _ 72 hb7; obtain ⟨a7, c7, e7⟩ := own_sliceB hA7.own; subst e7)
      have S8 := S7.p2.blkSet 0 (.slice a7 (names.length + 1) c7)
      generalize (w7.setCell ⟨bn, 0, none⟩ (.slice a7 (names.length + 1) c7)) = w8 at *
      clear S7 S2 hA7 hn7 hO pc7 pf7 c0 hb7
      have hb8 : w8.heap[bn]? = _ := S8.head
      have c8 : w8.cell? ⟨bn, 0, none⟩ = some (.slice a7 (names.length + 1) c7) := cell_of_row w8 bn 0 _ 72 (0, 0) hb8
      clear hb8
      have HNM := Hid.mk' hnm
      clear hnm hne
      go_wp2
      go_ret
      refine ⟨names.length, names ++ [s], .slice a7 (names.length + 1) c7, rfl, by simp, .inr ⟨HNM.out, rfl⟩, ?_⟩
      rw [show (names ++ [s]).length = names.length + 1 by simp, strs_append]
      exact S8
end Go.Proofs.Ybulkcdco
