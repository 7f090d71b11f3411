import Derived.Test.YbulkcdcoRaw
namespace Go.Proofs.Ybulkcdco
open Go.RowKit

theorem bname_any (w : World) (x : Nat) (hx : x < 256) : Calls Yba.prog 10 #[.int .u8 x] w fun r w' => ∃ s : ByteArray, r = .returned (.string s) ∧ s.size = 1 ∧ Keeps (fun _ => False) w w' := by
  have h0 : (0 : Int) ≤ (x : Int) := by omega
  go_enter Yba.func10, Yba.ntmps10
  go_wp2
  all_goals
    go_ret
    exact ⟨_, rfl, rfl, Keeps.refl _ _⟩
theorem Keeps.st {w w' : World} (hk : Keeps (fun _ => False) w w') {p : Addr} {v : Value} (h : w.cell? p = some v) : w'.cell? p = some v := (hk.cell (World.block_lt_of_cell? w _ h) (fun h => h)).trans h
theorem mem_set {R : List (Int × ByteArray × ByteArray)} {i : Nat} {p : Int × ByteArray × ByteArray} {P : Int × ByteArray × ByteArray → Prop} (h : ∀ q ∈ R, P q) (hp : P p) : ∀ q ∈ R.set i p, P q := fun q hq => by
  rcases List.mem_or_eq_of_mem_set hq with h1 | rfl
  · exact h q h1
  · exact hp
/-- A row of the call's own, read as rows that came in. -/
theorem RolesAt.own {w : World} {g n : Nat} {R : List (Int × ByteArray × ByteArray)} (h : w.ownsRow 0 53 3 (.slice (some ⟨g, 0, none⟩) n n) n (rls R)) : RolesAt w (some ⟨g, 0, none⟩) R := by
  intro i hi
  obtain ⟨g0, g1, g2⟩ := rls_get R i hi
  refine ⟨_, rfl, ?_, ?_, ?_⟩
  · rw [addr0]; exact own_cell h g0
  · rw [addr0]; exact own_cell h g1
  · rw [addr0]; exact own_cell h g2

set_option maxHeartbeats 3200000 in
theorem small_any (W : World) (a : Option Addr) (len cap : Nat) (hlen : len ≤ 1024)
    (hz : ∀ i, i < len → ∃ a0, a = some a0 ∧ ∃ (l : Int) (m r : Nat), m < 256 ∧ r < 256 ∧ W.cell? (a0.add (i * 3)) = some (.int .i64 l) ∧ W.cell? ⟨(a0.add (i * 3)).block, (a0.add (i * 3)).off + 1, none⟩ = some (.int .u8 m) ∧ W.cell? ⟨(a0.add (i * 3)).block, (a0.add (i * 3)).off + 2, none⟩ = some (.int .u8 r)) :
    Calls Yba.prog 4 #[.slice a len cap] W fun e w' => e = .returned (.bool true) ∧ Keeps (fun _ => False) W w' := by
  have hmk := make_run (P := Yba.prog) 48 53 (.agg #[.int .i64 0, .string ⟨#[]⟩, .string ⟨#[]⟩]) #[.int .i64 0, .string ⟨#[]⟩, .string ⟨#[]⟩] 3 40 Yba.underlying48 Yba.info53 rfl len (by omega) (by omega)
  have S0 : Sep W W [] := Sep.nil (Keeps.refl _ W)
  obtain ⟨g, hg⟩ : ∃ g, W.heap.size = g := ⟨_, rfl⟩
  have S1 := S0.madeAt 53 (madeCells #[.int .i64 0, .string ⟨#[]⟩, .string ⟨#[]⟩] (len * 3)) 3 len (size_madeCells _ _) (by omega) hg
  rw [← rls_rep] at S1
  have x0 : decide ((1024 : Int) < (len : Int)) = false := by simp; omega
  clear S0
  go_enter Yba.func4, Yba.ntmps4
  go_wp2
  generalize (W.alloc (.cells (madeCells #[.int .i64 0, .string ⟨#[]⟩, .string ⟨#[]⟩] (len * 3)) 53)) = w1 at *
  clear hmk hg
  go_loopw [4] (fun vi wx => ∃ (i : Nat) (R : List (Int × ByteArray × ByteArray)), i ≤ len ∧ vi = .int .i64 i ∧ R.length = len ∧ (∀ p ∈ R, p.2.1.size ≤ 1 ∧ p.2.2.size ≤ 1) ∧ Sep W wx [Res.row 53 3 (.slice (some ⟨g, 0, none⟩) len len) len (rls R)]) (fun vi _ => len - (intOf vi).toNat)
  case atStart =>
    refine ⟨0, List.replicate len r0, by omega, rfl, by simp, fun p hp => ?_, S1⟩
    obtain rfl := (List.mem_replicate.1 hp).2
    exact ⟨by decide, by decide⟩
  case round =>
    clear S1
    obtain ⟨i, R, hi, rfl, hR, hok, S⟩ := hrel
    by_cases hlt : i < len
    · have y0 : (i : Int) < (len : Int) := by omega
      have y1 : (0 : Int) ≤ (i : Int) := by omega
      obtain ⟨a0, rfl, l, m, r, hm, hr, z0, z1, z2⟩ := hz i hlt
      have HZ := Hid.mk' hz
      have HOK := Hid.mk' hok
      have Sq := S.quiet ((Keeps.refl (fun _ => False) wr).drew)
      have q0 := Sq.base.st z0
      have q1 := Sq.base.st z1
      have q2 := Sq.base.st z2
      clear hz hok S
      go_upto_region 7 with fail
      refine wp_region_noPanic ?_
      go_region_held3 (fun w' => w'.cell? (a0.add (i * 3)) = some (.int .i64 l) ∧ w'.cell? ⟨(a0.add (i * 3)).block, (a0.add (i * 3)).off + 1, none⟩ = some (.int .u8 m) ∧ w'.cell? ⟨(a0.add (i * 3)).block, (a0.add (i * 3)).off + 2, none⟩ = some (.int .u8 r)) (first | exact ⟨t0, t1, t2⟩ | exact ⟨k0, k1, k2⟩ | exact ⟨j0, j1, j2⟩ | exact ⟨q0, q1, q2⟩ | assumption) ((first
        | (go_at_call_of 10 (Value.int IntKind.u8 (m : Int)); refine (bname_any _ m hm).mono ?_; rintro e1 w2 ⟨s1, rfl, hs1, hk1⟩; have S2 := Sq.quiet hk1; have j0 := S2.base.st z0; have j1 := S2.base.st z1; have j2 := S2.base.st z2)
        | (go_at_call_of 10 (Value.int IntKind.u8 (r : Int)); refine (bname_any _ r hr).mono ?_; rintro e2 w3 ⟨s2, rfl, hs2, hk2⟩; have S3 := S2.quiet hk2; have k0 := S3.base.st z0; have k1 := S3.base.st z1; have k2 := S3.base.st z2; have hr3 : w3.ownsRow 0 53 3 (.slice (some ⟨g, 0, none⟩) len len) len (rls R) := S3.head; have gg := rls_get R i (by omega); have d0 := own_cell hr3 gg.1; have d1 := own_cell hr3 gg.2.1; have d2 := own_cell hr3 gg.2.2; have f0 : w3.frozen? ⟨g, i * 3, none⟩ = false := hr3.frozenAt _; have f1 : w3.frozen? ⟨g, i * 3 + 1, none⟩ = false := hr3.frozenAt _; have f2 : w3.frozen? ⟨g, i * 3 + 2, none⟩ = false := hr3.frozenAt _; have S4 := ((S3.store (i * 3) (.int .i64 l)).store (i * 3 + 1) (.string s1)).store (i * 3 + 2) (.string s2); have t0 := S4.base.st z0; have t1 := S4.base.st z1; have t2 := S4.base.st z2)))
      all_goals
        refine NoPanic.normal ?_
        rw [← rls_set R i (l, s1, s2)] at S4
        have hok' := mem_set (i := i) (p := (l, s1, s2)) HOK.out ⟨by show s1.size ≤ 1; omega, by show s2.size ≤ 1; omega⟩
        have HOK' := Hid.mk' hok'
        generalize (((w3.setCell ⟨g, i * 3, none⟩ (.int .i64 l)).setCell ⟨g, i * 3 + 1, none⟩ (.string s1)).setCell ⟨g, i * 3 + 2, none⟩ (.string s2)) = w4 at *
        clear hok' S3 S2 Sq hr3 gg d0 d1 d2 f0 f1 f2 t0 t1 t2 k0 k1 k2 j0 j1 j2 q0 q1 q2 z0 z1 z2 hk1 hk2
        go_wp2
        go_roundw
        case rel => exact ⟨i + 1, R.set i (l, s1, s2), by omega, by go_num, by simp [hR], HOK'.out, S4⟩
        case measure => simp [intOf]; omega
    · clear hz
      have hsz : ∀ p ∈ R, p.2.1.size ≤ maxLen ∧ p.2.2.size ≤ maxLen := fun p hp => by
        have := hok p hp
        unfold maxLen; omega
      have hc := cyc_any S hR hlen hsz
      clear S hok hsz
      go_wp2_with fail
      refine hc.mono ?_
      rintro r w3 ⟨v, rfl, S3⟩
      have hz' := RolesAt.own (show w3.ownsRow 0 53 3 (.slice (some ⟨g, 0, none⟩) len len) len (rls R) from S3.tail.head)
      have hc1 := tail_any (cap := len) S3 hR hlen hz'
      clear hz' hc S3
      go_wp2_with fail
      refine hc1.mono ?_
      rintro r w5 ⟨v', rfl, hc2⟩
      clear hc1
      go_wp2_with fail
      refine hc2.mono ?_
      rintro r w6 ⟨rfl, hk⟩
      clear hc2
      go_wp2
      go_ret
      exact ⟨rfl, hk⟩
theorem small_big (w : World) (a : Option Addr) (len cap : Nat) (h : 1024 < len) : Calls Yba.prog 4 #[.slice a len cap] w fun e w' => e = .returned (.bool true) ∧ Keeps (fun _ => False) w w' := by
  have b1 : decide ((1024 : Int) < (len : Int)) = true := by simp; omega
  go_enter Yba.func4, Yba.ntmps4
  go_wp2
  go_ret
  exact ⟨rfl, Keeps.refl _ _⟩
end Go.Proofs.Ybulkcdco
