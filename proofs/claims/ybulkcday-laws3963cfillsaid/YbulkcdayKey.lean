import Derived.Test.YbulkcdayTri
import Derived.Laws.BitsLemmas
namespace Go.Proofs.Ybulkcday
open Go.RowKit

theorem i64_and15 (n : Int) : bits .and .i64 n 15 = n % 16 := by
  have h15 : (BitVec.ofInt 64 15).toNat = 2 ^ 4 - 1 := by decide
  have key : (BitVec.ofInt 64 n &&& BitVec.ofInt 64 15).toNat = (n % ((2 ^ 64 : Nat) : Int)).toNat % 2 ^ 4 := by
    rw [BitVec.toNat_and, BitVec.toNat_ofInt, h15, Nat.and_two_pow_sub_one_eq_mod]
  show IntKind.i64.wrap ((BitVec.ofInt 64 n &&& BitVec.ofInt 64 15).toNat : Nat) = n % 16
  rw [key, IntKind.wrap_i64]
  omega
theorem and15 (n : Int) : ∃ m : Nat, m < 16 ∧ bits .and .i64 n 15 = (m : Int) := ⟨(n % 16).toNat, by omega, by rw [i64_and15]; omega⟩

set_option maxHeartbeats 1600000 in
set_option maxRecDepth 100000 in
theorem ckey_any {w : World} (t : Nat) (ht : t ≤ 1000000) : Calls Yba.prog 11 #[.int .i64 t] w fun r w' => ∃ s : ByteArray, r = .returned (.string s) ∧ 0 < s.size ∧ s.size ≤ 100 ∧ Keeps (fun _ => False) w w' := by
  obtain ⟨i5, hi5, hz5, hs5, hb5⟩ := info_parts Yba.info5
  obtain ⟨m0, hm0, e0⟩ := and15 ((t : Int) / 256)
  obtain ⟨m1, hm1, e1⟩ := and15 ((t : Int) / 16)
  obtain ⟨m2, hm2, e2⟩ := and15 (t : Int)
  have b0 : (m0 : Int) < 16 := by omega
  have b1 : (m1 : Int) < 16 := by omega
  have b2 : (m2 : Int) < 16 := by omega
  go_enter Yba.func11, Yba.ntmps11
  go_wp2
  go_region
  generalize ({ data := #[48, 49, 50, 51, 52, 53, 54, 55, 56, 57, 97, 98, 99, 100, 101, 102] } : ByteArray)[m0] = c0
  generalize ({ data := #[48, 49, 50, 51, 52, 53, 54, 55, 56, 57, 97, 98, 99, 100, 101, 102] } : ByteArray)[m1] = c1
  generalize ({ data := #[48, 49, 50, 51, 52, 53, 54, 55, 56, 57, 97, 98, 99, 100, 101, 102] } : ByteArray)[m2] = c2
  have ho : ((w.alloc (Obj.cells #[Value.int IntKind.u8 ↑c0.toNat, Value.int IntKind.u8 ↑c1.toNat, Value.int IntKind.u8 ↑c2.toNat] 5)).drew).ownsRow 0 5 1 (.slice (some ⟨w.heap.size, 0, none⟩) 3 3) 3 (Lib.strCells ⟨#[c0, c1, c2]⟩) :=
    ⟨rfl, .inr ⟨w.heap.size, 3, _, rfl, Nat.zero_le _, heap_alloc_new w _, Nat.le_refl _, by simp [maxLen], rfl, rfl⟩⟩
  have hk : Keeps (fun _ => False) w ((w.alloc (Obj.cells #[Value.int IntKind.u8 ↑c0.toNat, Value.int IntKind.u8 ↑c1.toNat, Value.int IntKind.u8 ↑c2.toNat] 5)).drew) := ((Keeps.refl _ w).alloc _).drew
  generalize (w.alloc (Obj.cells #[Value.int IntKind.u8 ↑c0.toNat, Value.int IntKind.u8 ↑c1.toNat, Value.int IntKind.u8 ↑c2.toNat] 5)).drew = w1 at *
  go_wp2
  go_loopw [3, 4] (fun v k wr => ∃ (m : Nat) (s : ByteArray) (g c : Nat), m ≤ 3 ∧ k = .int .i64 m ∧ v = .slice (some ⟨g, 0, none⟩) (3 + m) c ∧ w.heap.size ≤ g ∧ s.size = 3 + m ∧ wr.ownsRow 0 5 1 (.slice (some ⟨g, 0, none⟩) (3 + m) c) (3 + m) (Lib.strCells s) ∧ Keeps (fun _ => False) w wr) (fun _ k _ => 3 - (intOf k).toNat)
  case atStart => exact ⟨0, ⟨#[c0, c1, c2]⟩, w.heap.size, 3, by omega, rfl, rfl, Nat.le_refl _, rfl, ho, hk⟩
  case round =>
    clear ho hk e0 e1 e2
    obtain ⟨m, s, g, c, hm, rfl, rfl, hg, hs, ho, hk⟩ := hrel
    by_cases hlt : m < t % 3
    · have hd : decide ((m : Int) < (t : Int) % 3) = true := by simp; omega
      have ko := (Keeps.refl (fun _ => False) wr).alloc (.cells #[Value.int .u8 122] 5)
      go_wp2_with (at_builtin; refine wpList_app _ rfl (.tmp 23) (.tmp 24) 25 rfl 5 i5 (.int .u8 0) 1 1 Yba.underlying25 hi5 hz5 hs5 hb5 rfl (by omega) (.slice (some ⟨g, 0, none⟩) (3 + m) c) (3 + m) (Lib.strCells s) rfl (ko.own ho (fun _ _ h => h)) 1 [.int .u8 122] (Src.one_new wr _ _ rfl) (by unfold maxLen; omega) (by omega) ?_; intro v2 w2 hA2 hn2; obtain ⟨g2, c2', rfl, hnc2, hcm2, ho2, hk2, hm2'⟩ := hA2.shape (by omega))
      go_roundw
      case rel =>
        refine ⟨m + 1, ⟨s.data ++ #[122]⟩, g2, c2', by omega, by go_num, rfl, ?_, ?_, ?_, ?_⟩
        · have := hk.size; have := ko.size; omega
        · show (s.data ++ #[122]).size = 3 + (m + 1)
          rw [Array.size_append]
          have h1 : s.data.size = s.size := rfl
          have h2 : (#[122] : Array UInt8).size = 1 := rfl
          omega
        · have e : Lib.strCells ⟨s.data ++ #[122]⟩ = Lib.strCells s ++ [.int .u8 122] := by simp [Lib.strCells]
          rw [e]; exact ho2
        · exact (hk.trans ko (fun _ _ h => h)).trans hk2 (fun b hb h => by omega)
      case measure => simp [intOf]; omega
    · have hd : decide ((m : Int) < (t : Int) % 3) = false := by simp; omega
      have hcv := conv_src (src_own ho (fun u hu => by obtain ⟨y, rfl⟩ := str_key s u hu; rfl)) (by omega) (isStr_str s)
      rw [unS_str] at hcv
      go_wp2
      go_ret
      exact ⟨s, rfl, by omega, by omega, hk⟩
end Go.Proofs.Ybulkcday
