import Derived.Test.YbulkcdkcNam
namespace Go.Proofs.Ybulkcdkc
open Go.RowKit

def bit (mask i : Nat) : Bool := bits BinOp.and IntKind.u8 ((mask : Int) / 2 ^ i) 1 == 1
/-- The names of a mask, the first k. -/
def nl (mask k : Nat) : List ByteArray := ((List.range k).filter (bit mask)).map nmB
theorem nl_len (mask k : Nat) : (nl mask k).length ≤ k := by
  unfold nl
  rw [List.length_map]
  exact Nat.le_trans (List.length_filter_le _ _) (by simp)
theorem nl_yes {mask k : Nat} (h : bit mask k = true) : nl mask (k + 1) = nl mask k ++ [nmB k] := by
  unfold nl; rw [List.range_succ, List.filter_append, List.map_append]; simp [h]
theorem nl_no {mask k : Nat} (h : bit mask k = false) : nl mask (k + 1) = nl mask k := by
  unfold nl; rw [List.range_succ, List.filter_append, List.map_append]; simp [h]

set_option maxRecDepth 100000 in
theorem names_any {w0 w : World} {rs : List Res} (S : Sep w0 w rs) (mask : Nat) :
    Calls Yba.prog 5 #[.int .u8 mask] w fun r w' => ∃ v, r = .returned v ∧ Sep w0 w' (Res.row 9 1 v (nl mask 6).length (strs (nl mask 6)) :: rs) := by
  obtain ⟨i9, hi9, hz9, hs9, hb9⟩ := info_parts Yba.info9
  obtain ⟨b, hb⟩ : ∃ b, w.heap.size = b := ⟨_, rfl⟩
  have S1 := (S.blkAt #[.string ⟨#[97]⟩, .string ⟨#[98]⟩, .string ⟨#[99]⟩, .string ⟨#[100]⟩, .string ⟨#[101]⟩, .string ⟨#[102]⟩] 76 hb).nilRow 9 1
  clear S
  go_enter Yba.func5, Yba.ntmps5
  go_wp2
  generalize (w.alloc (.cells #[.string ⟨#[97]⟩, .string ⟨#[98]⟩, .string ⟨#[99]⟩, .string ⟨#[100]⟩, .string ⟨#[101]⟩, .string ⟨#[102]⟩] 76)) = w1 at *
  clear hb
  go_loopw [4, 5] (fun vo vi wx => ∃ k : Nat, k ≤ 6 ∧ vi = .int .i64 k ∧ Sep w0 wx (Res.row 9 1 vo (nl mask k).length (strs (nl mask k)) :: Res.blk b #[.string ⟨#[97]⟩, .string ⟨#[98]⟩, .string ⟨#[99]⟩, .string ⟨#[100]⟩, .string ⟨#[101]⟩, .string ⟨#[102]⟩] 76 :: rs)) (fun _ vi _ => 6 - (intOf vi).toNat)
  case atStart => exact ⟨0, by omega, rfl, S1⟩
  case round =>
    clear S1
    obtain ⟨k, hk, rfl, S⟩ := hrel
    by_cases hlt : k < 6
    · have y0 : (k : Int) < 6 := by omega
      have y1 : (0 : Int) ≤ (k : Int) := by omega
      have hb : wr.heap[b]? = _ := S.tail.head
      have c0 : wr.cell? ⟨b, k, none⟩ = some (.string (nmB k)) := by
        have hk' : k = 0 ∨ k = 1 ∨ k = 2 ∨ k = 3 ∨ k = 4 ∨ k = 5 := by omega
        rcases hk' with rfl | rfl | rfl | rfl | rfl | rfl <;> exact cell_of_row wr b _ _ 76 (0, 0) hb
      obtain ⟨s, hs⟩ : ∃ s, nmB k = s := ⟨_, rfl⟩
      rw [hs] at c0
      have HS := Hid.mk' hs
      have hln := nl_len mask k
      obtain ⟨t, ht⟩ : ∃ t, bit mask k = t := ⟨_, rfl⟩
      have HT := Hid.mk' ht
      obtain ⟨ns, hns⟩ : ∃ ns, nl mask k = ns := ⟨_, rfl⟩
      rw [hns] at S hln
      have HNS := Hid.mk' hns
      unfold bit at ht
      clear hs hb hns
      cases t with
      | true =>
        have S1 := S.quiet ((Keeps.refl (fun _ => False) wr).alloc (.cells #[.string s] 9))
        have hO : World.ownsRow _ 0 9 1 u4 ns.length (strs ns) := S1.head
        go_wp2_with (at_builtin; refine wpList_app _ rfl (.tmp 17) (.tmp 21) 27 rfl 9 i9 (.string ⟨#[]⟩) 1 16 Yba.underlying27 hi9 hz9 hs9 hb9 rfl (by omega) u4 ns.length (strs ns) rfl hO 1 [.string s] (Src.one_new wr _ _ rfl) (by unfold maxLen; omega) (by omega) ?_; intro x7 w7 hA7 hn7)
        have S2 := S1.app hA7
        go_roundw
        case rel =>
          refine ⟨k + 1, by omega, by go_num, ?_⟩
          rw [nl_yes HT.out, HNS.out, HS.out, strs_append, show (ns ++ [s]).length = ns.length + 1 by simp]
          exact S2
        case measure => simp [intOf]; omega
      | false =>
        go_wp2
        go_roundw
        case rel =>
          refine ⟨k + 1, by omega, by go_num, ?_⟩
          rw [nl_no HT.out, HNS.out]
          exact S
        case measure => simp [intOf]; omega
    · obtain rfl : k = 6 := by omega
      have S2 := S.p2.tail
      have HS2 := Hid.mk' S2
      clear S S2
      go_wp2
      go_ret
      exact ⟨_, rfl, HS2.out⟩
end Go.Proofs.Ybulkcdkc
