import Derived.Test.YbulkcdkcHld
import Derived.Test.YbulkcdkcNam
namespace Go.Proofs.Ybulkcdkc
open Go.RowKit

/-- The first names with their numbers. -/
def kvOf (vals : List Nat) : Nat → List (ByteArray × Nat)
  | 0 => []
  | i + 1 => kvOf vals i ++ [(nmB i, vals.getD i 0)]
theorem kvOf_keys (vals : List Nat) : ∀ i p, p ∈ kvOf vals i → ∃ j, j < i ∧ p.1 = nmB j
  | 0, p, h => by cases h
  | i + 1, p, h => by
    simp only [kvOf, List.mem_append, List.mem_singleton] at h
    rcases h with h | rfl
    · obtain ⟨j, hj, e⟩ := kvOf_keys vals i p h
      exact ⟨j, by omega, e⟩
    · exact ⟨i, by omega, rfl⟩
theorem kvOf_new (vals : List Nat) {i : Nat} (hi : i < 6) : nmB i ∉ (kvOf vals i).map Prod.fst := fun h => by
  obtain ⟨p, hp, e⟩ := List.mem_map.1 h
  obtain ⟨j, hj, e'⟩ := kvOf_keys vals i p hp
  have := nmB_inj (by omega) hi (e'.symm.trans e)
  omega
theorem pv_snoc {kv : List (ByteArray × Nat)} {s x : ByteArray} {v : Nat} (hs : s ∉ kv.map Prod.fst) : pv (kv ++ [(s, v)]) x = if s = x then v else pv kv x := by
  unfold pv
  rw [List.find?_append]
  by_cases e : s = x
  · subst e
    have h0 : kv.find? (fun p => eqb p.1 s) = none := List.find?_eq_none.2 (fun p hp => by
      have : p.1 ≠ s := fun e => hs (e ▸ List.mem_map_of_mem (f := Prod.fst) hp)
      simp [eqb_ne this])
    rw [h0, if_pos rfl]
    simp [eqb_iff.2 rfl]
  · rw [if_neg e]
    cases h0 : kv.find? (fun p => eqb p.1 x) with
    | some p => simp
    | none => simp [eqb_ne e]
/-- The numbers that came in. -/
def PrAt (w : World) (a : Option Addr) (vals : List Nat) : Prop := ∀ i, i < vals.length → ∃ a0, a = some a0 ∧ w.cell? (a0.add i) = some (.int .u64 (vals.getD i 0))
theorem PrAt.keep {w w' : World} {a : Option Addr} {vals : List Nat} (h : PrAt w a vals) (k : Keeps (fun _ => False) w w') : PrAt w' a vals := fun i hi => by
  obtain ⟨a0, ha, hc⟩ := h i hi
  exact ⟨a0, ha, k.st hc⟩

set_option maxHeartbeats 800000 in
set_option maxRecDepth 100000 in
theorem cl8_any {w : World} {bi bp bl : Nat} {me : ByteArray} {a : Option Addr} {len cap last : Nat} {vals : List Nat} (hid : w.cell? ⟨bi, 0, none⟩ = some (.string me)) (hpr : w.cell? ⟨bp, 0, none⟩ = some (.slice a len cap)) (hla : w.cell? ⟨bl, 0, none⟩ = some (.int .u64 last)) (hv : PrAt w a vals) (hl : vals.length = len) (x : ByteArray) :
    Calls Yba.prog 8 #[.string x, .pointer (some ⟨bi, 0, none⟩), .pointer (some ⟨bp, 0, none⟩), .pointer (some ⟨bl, 0, none⟩)] w fun r w' => r = .returned (.bool (hol me (kvOf vals (min len 6)) last x)) ∧ Keeps (fun _ => False) w w' := by
  by_cases hx : x = me
  · subst hx
    have e0 : hol x (kvOf vals (min len 6)) last x = true := by unfold hol; rw [eqb_iff.2 rfl]; rfl
    rw [e0]
    go_enter Yba.func8, Yba.ntmps8
    go_wp2
    go_ret
    exact ⟨by simp, Keeps.refl _ _⟩
  · have hx' : (x.toList == me.toList) = false := bytes_ne hx
    have e0 : hol me (kvOf vals (min len 6)) last x = decide (last ≤ pv (kvOf vals (min len 6)) x) := by unfold hol; rw [eqb_ne hx]; rfl
    rw [e0]
    have HPR := Hid.mk' hpr
    have HLA := Hid.mk' hla
    clear e0 hpr hla
    go_enter Yba.func8, Yba.ntmps8
    go_wp2
    go_loopw [6, 7] (fun vp vi wx => ∃ i : Nat, i ≤ min len 6 ∧ vi = .int .i64 i ∧ vp = .int .u64 (pv (kvOf vals i) x) ∧ Keeps (fun _ => False) w wx) (fun _ vi _ => 6 - (intOf vi).toNat)
    case atStart => exact ⟨0, by omega, rfl, rfl, Keeps.refl _ _⟩
    case round =>
      obtain ⟨i, hi, rfl, hp6, hk⟩ := hrel
      subst hp6
      have c0 := hk.st HPR.out
      obtain ⟨q, hq⟩ : ∃ q, pv (kvOf vals i) x = q := ⟨_, rfl⟩
      rw [hq]
      have HQ := Hid.mk' hq
      clear hq
      by_cases h1 : i < len
      · have y0 : decide ((i : Int) < (len : Int)) = true := by simp; omega
        have y1 : (i : Int) < (len : Int) := by omega
        have y2 : (0 : Int) ≤ (i : Int) := by omega
        by_cases h2 : i < 6
        · have y3 : decide ((i : Int) < 6) = true := by simp; omega
          obtain ⟨a0, ha, hc⟩ := hv i (by omega)
          subst ha
          have hn := name_any wr i (by omega)
          rw [Nat.mod_eq_of_lt h2] at hn
          have hps := pv_snoc (x := x) (v := vals.getD i 0) (kvOf_new vals h2)
          have HPS := Hid.mk' (show pv (kvOf vals (i + 1)) x = _ from hps)
          obtain ⟨s, hs⟩ : ∃ s, nmB i = s := ⟨_, rfl⟩
          obtain ⟨vi, hvi⟩ : ∃ vi, vals.getD i 0 = vi := ⟨_, rfl⟩
          rw [hs] at hn
          rw [hvi] at hc
          have HS := Hid.mk' hs
          have HVI := Hid.mk' hvi
          clear hps hs hvi
          go_wp2_with fail
          refine hn.mono ?_
          rintro r w1 ⟨rfl, k1⟩
          have hk1 := hk.trans k1 (fun _ _ h => h)
          have c1 := k1.st c0
          have c2 := hk1.st hc
          clear c0 hn
          by_cases hsx : s = x
          · subst hsx
            go_wp2
            go_roundw
            case rel => exact ⟨i + 1, by omega, by go_num, by rw [HPS.out, HS.out, if_pos rfl, HVI.out], hk1⟩
            case measure => simp [intOf]; omega
          · have hsx' : (s.toList == x.toList) = false := bytes_ne hsx
            go_wp2
            go_roundw
            case rel => exact ⟨i + 1, by omega, by go_num, by rw [HPS.out, HS.out, if_neg hsx, HQ.out], hk1⟩
            case measure => simp [intOf]; omega
        · have y3 : decide ((i : Int) < 6) = false := by simp; omega
          have e : min len 6 = i := by omega
          have HE := Hid.mk' e
          have c3 := hk.st HLA.out
          clear e
          go_wp2
          go_ret
          exact ⟨by rw [HE.out, HQ.out]; simp, hk⟩
      · have y0 : decide ((i : Int) < (len : Int)) = false := by simp; omega
        have e : min len 6 = i := by omega
        have HE := Hid.mk' e
        have c3 := hk.st HLA.out
        clear e
        go_wp2
        go_ret
        exact ⟨by rw [HE.out, HQ.out]; simp, hk⟩
end Go.Proofs.Ybulkcdkc
