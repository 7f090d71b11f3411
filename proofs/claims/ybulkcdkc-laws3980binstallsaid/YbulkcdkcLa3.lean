import Derived.Test.YbulkcdkcLa5
import Derived.Test.YbulkcdkcDcd
namespace Go.Proofs.Ybulkcdkc
open Go.RowKit

theorem set_set (cs : Array Value) (i : Nat) (u v : Value) : (cs.setIfInBounds i u).setIfInBounds i v = cs.setIfInBounds i v := by
  apply Array.ext'; simp
set_option maxHeartbeats 6400000 in
set_option maxRecDepth 1000000 in
theorem law3 {W0 w : World} {a : Option Addr} {n cap bk bco : Nat} {cs0 : Array Value} {sts : List (Nat × Nat × Nat × Nat)} {rs : List Res} {Q : Exit → Act → World → Prop} (S : Sep W0 w (Res.blk bco cs0 60 :: Res.row 69 8 (.slice none 0 0) 0 (ccells ((sts.take 0).map decOf)) :: Res.blk bk #[.int .u8 1, .int .u8 3, .int .u8 2, .int .u8 5, .int .u8 4] 62 :: rs)) (hcs : cs0[12]? = some (.slice none 0 0)) (hst : StAt W0 a sts) (hl : sts.length = n) (hlen : n ≤ 300) (c0 c1 c2 c3 c4 c5 c6 c7 c8 c9 c10 c11 c12 c13 c14 c15 c16 c17 c18 c19 c20 c22 c24 c25 c26 c27 c28 c29 c30 c31 c32 c33 c34 c35 c36 c37 c38 c39 c40 c41 c42 c43 c44 c45 c46 c47 c48 c49 c50 c51 c52 c53 c54 c55 c56 c57 c58 c59 c60 c61 c62 c63 c64 c65 c66 c67 c68 c69 c70 c71 c72 c73 c74 c75 c76 c77 c78 c79 c80 c81 c82 c83 c84 c85 c86 c87 c88 c89 c90 c91 c92 c93 c94 c95 c96 c97 c98 c99 c100 c101 c102 c103 c107 c108 c109 c110 c111 c112 c113 c114 c115 c116 c117 c118 c119 c120 c121 c122 c123 c124 c125 c126 c127 c128 c129 c130 c131 c132 c133 c134 c135 c136 c137 c138 c139 c140 c141 c142 c143 c144 c145 c146 c147 c148 c149 c150 c151 c152 c153 c154 c155 c156 c157 c158 c159 c160 c161 c162 c163 c164 c165 c166 c167 c168 c169 c170 c171 c172 c173 c174 c175 c176 c177 c178 c179 c180 c181 c182 c183 c184 c185 c186 c187 c188 c189 c190 c191 c192 c193 c194 c195 c196 c197 c198 c199 c200 c201 c202 c203 c204 c205 c206 c207 c208 c209 c210 c211 c212 c213 c214 c215 c216 c217 c218 c219 c220 c221 c222 c223 c224 c225 c226 c227 c228 c229 c230 c231 c232 c233 c234 c235 c236 c237 c238 c239 c240 c241 c242 c243 c244 c245 c246 c247 c248 c249 c250 c251 c252 c253 c254 c255 c256 c257 c258 c259 c260 c261 c262 c263 c264 c265 c266 c267 c268 c269 c270 c271 c272 c273 c274 c275 c276 c277 c278 c279 c280 c281 c282 c283 c284 c285 c286 c287 c288 c289 c290 c291 c292 c293 c294 c295 c296 c297 c298 c299 c300 c301 c302 c303 c304 c305 c306 c307 c308 c309 c310 c311 c312 c313 c314 c315 c316 c317 c318 c319 c320 c321 c322 c323 c324 c325 c326 c327 c328 c329 c330 c331 c332 c333 c334 c335 c336 c337 c338 c339 c340 c341 c342 c343 c344 c345 c346 c347 c348 c349 c350 : Value)
    (hend : ∀ (u25 u106 u107 u108 u109 u110 u111 u112 u113 u114 u115 u116 u117 u118 u119 u120 u121 u122 u123 u124 u125 u126 u127 u128 u129 u130 u131 u132 u133 u134 : Value) (wx : World) (vcar : Value), Sep W0 wx (Res.blk bco (cs0.setIfInBounds 12 vcar) 60 :: Res.row 69 8 vcar n (ccells ((sts.take n).map decOf)) :: Res.blk bk #[.int .u8 1, .int .u8 3, .int .u8 2, .int .u8 5, .int .u8 4] 62 :: rs) → Q (.exit 4) ⟨#[c0, c1, c2, c3, c4, c5, c6, c7, c8, c9, c10, c11, c12, c13, c14, c15, c16, c17, c18, c19, c20, .pointer (some ⟨bco, 0, none⟩), c22, .pointer (some ⟨bk, 0, none⟩), c24, u25, c26, c27, c28, c29, c30, c31, c32, c33, c34, c35, c36, c37, c38, c39, c40, c41, c42, c43, c44, c45, c46, c47, c48, c49, c50, c51, c52, c53, c54, c55, c56, c57, c58, c59, c60, c61, c62, c63, c64, c65, c66, c67, c68, c69, c70, c71, c72, c73, c74, c75, c76, c77, c78, c79, c80, c81, c82, c83, c84, c85, c86, c87, c88, c89, c90, c91, c92, c93, c94, c95, c96, c97, c98, c99, c100, c101, c102, c103, .slice a n cap, .int .i64 (n : Int), u106, u107, u108, u109, u110, u111, u112, u113, u114, u115, u116, u117, u118, u119, u120, u121, u122, u123, u124, u125, u126, u127, u128, u129, u130, u131, u132, u133, u134, c135, c136, c137, c138, c139, c140, c141, c142, c143, c144, c145, c146, c147, c148, c149, c150, c151, c152, c153, c154, c155, c156, c157, c158, c159, c160, c161, c162, c163, c164, c165, c166, c167, c168, c169, c170, c171, c172, c173, c174, c175, c176, c177, c178, c179, c180, c181, c182, c183, c184, c185, c186, c187, c188, c189, c190, c191, c192, c193, c194, c195, c196, c197, c198, c199, c200, c201, c202, c203, c204, c205, c206, c207, c208, c209, c210, c211, c212, c213, c214, c215, c216, c217, c218, c219, c220, c221, c222, c223, c224, c225, c226, c227, c228, c229, c230, c231, c232, c233, c234, c235, c236, c237, c238, c239, c240, c241, c242, c243, c244, c245, c246, c247, c248, c249, c250, c251, c252, c253, c254, c255, c256, c257, c258, c259, c260, c261, c262, c263, c264, c265, c266, c267, c268, c269, c270, c271, c272, c273, c274, c275, c276, c277, c278, c279, c280, c281, c282, c283, c284, c285, c286, c287, c288, c289, c290, c291, c292, c293, c294, c295, c296, c297, c298, c299, c300, c301, c302, c303, c304, c305, c306, c307, c308, c309, c310, c311, c312, c313, c314, c315, c316, c317, c318, c319, c320, c321, c322, c323, c324, c325, c326, c327, c328, c329, c330, c331, c332, c333, c334, c335, c336, c337, c338, c339, c340, c341, c342, c343, c344, c345, c346, c347, c348, c349, c350], []⟩ wx) :
    Code.wp Yba.prog (lawLoop 19) Q ⟨#[c0, c1, c2, c3, c4, c5, c6, c7, c8, c9, c10, c11, c12, c13, c14, c15, c16, c17, c18, c19, c20, .pointer (some ⟨bco, 0, none⟩), c22, .pointer (some ⟨bk, 0, none⟩), c24, c25, c26, c27, c28, c29, c30, c31, c32, c33, c34, c35, c36, c37, c38, c39, c40, c41, c42, c43, c44, c45, c46, c47, c48, c49, c50, c51, c52, c53, c54, c55, c56, c57, c58, c59, c60, c61, c62, c63, c64, c65, c66, c67, c68, c69, c70, c71, c72, c73, c74, c75, c76, c77, c78, c79, c80, c81, c82, c83, c84, c85, c86, c87, c88, c89, c90, c91, c92, c93, c94, c95, c96, c97, c98, c99, c100, c101, c102, c103, .slice a n cap, .int .i64 (n : Int), .int .i64 0, c107, c108, c109, c110, c111, c112, c113, c114, c115, c116, c117, c118, c119, c120, c121, c122, c123, c124, c125, c126, c127, c128, c129, c130, c131, c132, c133, c134, c135, c136, c137, c138, c139, c140, c141, c142, c143, c144, c145, c146, c147, c148, c149, c150, c151, c152, c153, c154, c155, c156, c157, c158, c159, c160, c161, c162, c163, c164, c165, c166, c167, c168, c169, c170, c171, c172, c173, c174, c175, c176, c177, c178, c179, c180, c181, c182, c183, c184, c185, c186, c187, c188, c189, c190, c191, c192, c193, c194, c195, c196, c197, c198, c199, c200, c201, c202, c203, c204, c205, c206, c207, c208, c209, c210, c211, c212, c213, c214, c215, c216, c217, c218, c219, c220, c221, c222, c223, c224, c225, c226, c227, c228, c229, c230, c231, c232, c233, c234, c235, c236, c237, c238, c239, c240, c241, c242, c243, c244, c245, c246, c247, c248, c249, c250, c251, c252, c253, c254, c255, c256, c257, c258, c259, c260, c261, c262, c263, c264, c265, c266, c267, c268, c269, c270, c271, c272, c273, c274, c275, c276, c277, c278, c279, c280, c281, c282, c283, c284, c285, c286, c287, c288, c289, c290, c291, c292, c293, c294, c295, c296, c297, c298, c299, c300, c301, c302, c303, c304, c305, c306, c307, c308, c309, c310, c311, c312, c313, c314, c315, c316, c317, c318, c319, c320, c321, c322, c323, c324, c325, c326, c327, c328, c329, c330, c331, c332, c333, c334, c335, c336, c337, c338, c339, c340, c341, c342, c343, c344, c345, c346, c347, c348, c349, c350], []⟩ w := by
  obtain ⟨i69, hi69, hz69, hs69, hb69⟩ := info_parts Yba.info69
  have HEND := Hid.mk' hend
  have HST := Hid.mk' hst
  have HL := Hid.mk' hl
  have l12 : 12 < cs0.size := (Array.getElem?_eq_some_iff.1 hcs).1
  have hset : cs0.setIfInBounds 12 (.slice none 0 0) = cs0 := by
    apply Array.ext_getElem?
    intro j
    by_cases hj : j = 12
    · subst hj; rw [hcs]; simp [l12]
    · rw [Array.getElem?_setIfInBounds_ne (fun e => hj e.symm)]
  clear hend hst hl
  conv => arg 2; whnf
  dsimp only
  go_loopw [25, 106] (fun _ vi wx => ∃ (m : Nat) (vcar : Value), m ≤ n ∧ vi = .int .i64 m ∧ Sep W0 wx (Res.blk bco (cs0.setIfInBounds 12 vcar) 60 :: Res.row 69 8 vcar m (ccells ((sts.take m).map decOf)) :: Res.blk bk #[.int .u8 1, .int .u8 3, .int .u8 2, .int .u8 5, .int .u8 4] 62 :: rs)) (fun _ vi _ => n - (intOf vi).toNat)
  case atStart => exact ⟨0, _, by omega, rfl, by rw [hset]; exact S⟩
  case round =>
    clear S hset
    obtain ⟨m, vcar, hi, rfl, S⟩ := hrel
    by_cases hlt : m < n
    · have y0 : (m : Int) < (n : Int) := by omega
      have y1 : (0 : Int) ≤ (m : Int) := by omega
      obtain ⟨a0, ha, hk, hwh, c0, c1, c2, c3⟩ := (HST.out.keep S.base) m (by have := HL.out; omega)
      subst ha
      have htd := take_dec (sts := sts) (i := m) (by have := HL.out; omega)
      obtain ⟨k, wh, num, sq, hs⟩ : ∃ k wh num sq, sts.getD m s00 = (k, wh, num, sq) := ⟨_, _, _, _, rfl⟩
      rw [hs] at hk hwh c0 c1 c2 c3 htd
      have HTD := Hid.mk' htd
      obtain ⟨va, vc, hvc⟩ := own_sliceB (show wr.ownsRow 0 69 8 vcar m _ from S.tail.head)
      subst hvc
      obtain ⟨b25, hb25⟩ : ∃ b25, wr.heap.size = b25 := ⟨_, rfl⟩
      have S1 := S.blkAt #[.int .u8 k, .int .u8 wh, .int .u64 num, .int .u64 sq] 64 hb25
      obtain ⟨r, hr⟩ : ∃ r, k % 5 = r := ⟨_, rfl⟩
      have hr5 : (k : Int) % 5 = (r : Int) := by omega
      have hrl : (r : Int) < 5 := by omega
      have hr0 : (0 : Int) ≤ (r : Int) := by omega
      have hwk : IntKind.i64.wrap (k : Int) = (k : Int) := by rw [IntKind.wrap_i64]; omega
      have htm : (k : Int).tmod 5 = (r : Int) := by rw [Int.tmod_eq_emod_of_nonneg (by omega)]; omega
      have hkd : (#[.int .u8 1, .int .u8 3, .int .u8 2, .int .u8 5, .int .u8 4] : Array Value)[r]? = some (.int .u8 (kd r : Nat)) := by
        have : r = 0 ∨ r = 1 ∨ r = 2 ∨ r = 3 ∨ r = 4 := by omega
        rcases this with rfl | rfl | rfl | rfl | rfl <;> rfl
      have h12 : (cs0.setIfInBounds 12 (.slice va m vc))[12]? = some (.slice va m vc) := by simp [l12]
      obtain ⟨fr, hfr⟩ : ∃ fr, nmB (wh % 6) = fr := ⟨_, rfl⟩
      have hn : ∀ W, Calls Yba.prog 4 #[.int .u8 wh] W fun r w' => r = .returned (.string fr) ∧ Keeps (fun _ => False) W w' := fun W => by rw [← hfr]; exact name_any W wh hwh
      have HR := Hid.mk' hr
      have HFR := Hid.mk' hfr
      clear S hs htd hr hfr
      obtain ⟨cs, hcse⟩ : ∃ cs, cs0.setIfInBounds 12 (.slice va m vc) = cs := ⟨_, rfl⟩
      rw [hcse] at h12 S1
      have HCSE := Hid.mk' hcse
      clear hcse
      go_upto_region 21 with fail
      clear c0 c1 c2 c3 hb25
      generalize (wr.alloc (.cells #[.int .u8 k, .int .u8 wh, .int .u64 num, .int .u64 sq] 64)) = w3 at *
      have Sq := S1.quiet ((Keeps.refl (fun _ => False) w3).drew)
      have q0 : w3.drew.cell? ⟨b25, 0, none⟩ = some (.int .u8 k) := cell_of_row _ b25 0 _ 64 (0, 0) Sq.head
      have q1 : w3.drew.cell? ⟨b25, 1, none⟩ = some (.int .u8 wh) := cell_of_row _ b25 1 _ 64 (0, 0) Sq.head
      have q2 : w3.drew.cell? ⟨b25, 2, none⟩ = some (.int .u64 num) := cell_of_row _ b25 2 _ 64 (0, 0) Sq.head
      have q3 : w3.drew.cell? ⟨b25, 3, none⟩ = some (.int .u64 sq) := cell_of_row _ b25 3 _ 64 (0, 0) Sq.head
      have q4 : w3.drew.cell? ⟨bk, r, none⟩ = some (.int .u8 (kd r : Nat)) := by rw [cell_of_row _ bk r _ 62 (0, 0) Sq.p4.head]; exact hkd
      have q5 : w3.drew.cell? ⟨bco, 12, none⟩ = some (.slice va m vc) := by rw [cell_of_row _ bco 12 _ 60 (0, 0) Sq.tail.head]; exact h12
      refine wp_region_noPanic ?_
      refine wp_region_held_drew (S := fun w' => w'.cell? ⟨b25, 0, none⟩ = some (.int .u8 k) ∧ w'.cell? ⟨b25, 1, none⟩ = some (.int .u8 wh) ∧ w'.cell? ⟨b25, 2, none⟩ = some (.int .u64 num) ∧ w'.cell? ⟨b25, 3, none⟩ = some (.int .u64 sq) ∧ w'.cell? ⟨bk, r, none⟩ = some (.int .u8 (kd r : Nat))) (by kernel_rfl) ⟨q0, q1, q2, q3, q4⟩ (fun hHeld => ?_)
      refine wpAnyH_take (i := 0) (oi := { dst := some 110, op := Op.move (Operand.tmp 21), type := 47, pos := "zz_law_s3980b.go:53", after := #[], guard := none }) (v := ?_) rfl (by kernel_rfl) (by kernel_rfl) (by kernel_rfl) (fun _ _ _ h => h) (Or.inl ⟨by rfl, ?_⟩) (by assumption) ?_
      rotate_left
      · intro w hSw; (try dsimp only at hSw); go_simp; (try with_reducible rfl)
      (try simp only [Act.put, List.setIfInBounds_toArray, List.set_cons_zero, List.set_cons_succ])
      refine wpAnyH_take (i := 1) (oi := { dst := some 111, op := Op.move (Operand.tmp 21), type := 47, pos := "zz_law_s3980b.go:53", after := #[], guard := none }) (v := ?_) rfl (by kernel_rfl) (by kernel_rfl) (by kernel_rfl) (fun _ _ _ h => h) (Or.inl ⟨by rfl, ?_⟩) (by assumption) ?_
      rotate_left
      · intro w hSw; (try dsimp only at hSw); go_simp; (try with_reducible rfl)
      (try simp only [Act.put, List.setIfInBounds_toArray, List.set_cons_zero, List.set_cons_succ])
      refine wpAnyH_take (i := 2) (oi := { dst := some 112, op := Op.nilCheck (Operand.tmp 111), type := 0, pos := "zz_law_s3980b.go:53", after := #[{ on := 1, ground := Ground.data }], guard := none }) (v := ?_) rfl (by kernel_rfl) (by kernel_rfl) (by kernel_rfl) (fun _ _ _ h => h) (Or.inl ⟨by rfl, ?_⟩) (by assumption) ?_
      rotate_left
      · intro w hSw; (try dsimp only at hSw); go_simp; (try with_reducible rfl)
      (try simp only [Act.put, List.setIfInBounds_toArray, List.set_cons_zero, List.set_cons_succ])
      refine wpAnyH_take (i := 3) (oi := { dst := some 113, op := Op.fieldAddr 60 (Operand.tmp 112) 12, type := 0, pos := "zz_law_s3980b.go:53", after := #[{ on := 2, ground := Ground.data }], guard := none }) (v := ?_) rfl (by kernel_rfl) (by kernel_rfl) (by kernel_rfl) (fun _ _ _ h => h) (Or.inl ⟨by rfl, ?_⟩) (by assumption) ?_
      rotate_left
      · intro w hSw; (try dsimp only at hSw); go_simp; (try with_reducible rfl)
      (try simp only [Act.put, List.setIfInBounds_toArray, List.set_cons_zero, List.set_cons_succ])
      refine wpAnyH_take (i := 5) (oi := { dst := some 115, op := Op.fieldAddr 64 (Operand.tmp 25) 2, type := 0, pos := "zz_law_s3980b.go:53", after := #[], guard := none }) (v := ?_) rfl (by kernel_rfl) (by kernel_rfl) (by kernel_rfl) (fun _ _ _ h => h) (Or.inl ⟨by rfl, ?_⟩) (by assumption) ?_
      rotate_left
      · intro w hSw; (try dsimp only at hSw); go_simp; (try with_reducible rfl)
      (try simp only [Act.put, List.setIfInBounds_toArray, List.set_cons_zero, List.set_cons_succ])
      refine wpAnyH_take (i := 6) (oi := { dst := some 116, op := Op.load 23 (Operand.tmp 115), type := 23, pos := "zz_law_s3980b.go:53", after := #[{ on := 5, ground := Ground.data }], guard := none }) (v := ?_) rfl (by kernel_rfl) (by kernel_rfl) (by kernel_rfl) (fun _ _ _ h => h) (Or.inl ⟨by rfl, ?_⟩) (by assumption) ?_
      rotate_left
      · intro w hSw; (try dsimp only at hSw); go_simp; (try with_reducible rfl)
      (try simp only [Act.put, List.setIfInBounds_toArray, List.set_cons_zero, List.set_cons_succ])
      refine wpAnyH_take (i := 7) (oi := { dst := some 117, op := Op.fieldAddr 64 (Operand.tmp 25) 0, type := 0, pos := "zz_law_s3980b.go:53", after := #[], guard := none }) (v := ?_) rfl (by kernel_rfl) (by kernel_rfl) (by kernel_rfl) (fun _ _ _ h => h) (Or.inl ⟨by rfl, ?_⟩) (by assumption) ?_
      rotate_left
      · intro w hSw; (try dsimp only at hSw); go_simp; (try with_reducible rfl)
      (try simp only [Act.put, List.setIfInBounds_toArray, List.set_cons_zero, List.set_cons_succ])
      refine wpAnyH_take (i := 8) (oi := { dst := some 118, op := Op.load 5 (Operand.tmp 117), type := 5, pos := "zz_law_s3980b.go:53", after := #[{ on := 7, ground := Ground.data }], guard := none }) (v := ?_) rfl (by kernel_rfl) (by kernel_rfl) (by kernel_rfl) (fun _ _ _ h => h) (Or.inl ⟨by rfl, ?_⟩) (by assumption) ?_
      rotate_left
      · intro w hSw; (try dsimp only at hSw); go_simp; (try with_reducible rfl)
      (try simp only [Act.put, List.setIfInBounds_toArray, List.set_cons_zero, List.set_cons_succ])
      refine wpAnyH_take (i := 9) (oi := { dst := some 119, op := Op.convert 5 3 (Operand.tmp 118), type := 3, pos := "zz_law_s3980b.go:53", after := #[{ on := 8, ground := Ground.data }], guard := none }) (v := ?_) rfl (by kernel_rfl) (by kernel_rfl) (by kernel_rfl) (fun _ _ _ h => h) (Or.inl ⟨by rfl, ?_⟩) (by assumption) ?_
      rotate_left
      · intro w hSw; (try dsimp only at hSw); go_simp; (try with_reducible rfl)
      (try simp only [Act.put, List.setIfInBounds_toArray, List.set_cons_zero, List.set_cons_succ])
      refine wpAnyH_take (i := 10) (oi := { dst := some 120, op := Op.binOp BinOp.rem 3 (Operand.tmp 119) (Operand.const (Value.int IntKind.i64 5)) 3, type := 3, pos := "zz_law_s3980b.go:53", after := #[{ on := 9, ground := Ground.data }], guard := none }) (v := ?_) rfl (by kernel_rfl) (by kernel_rfl) (by kernel_rfl) (fun _ _ _ h => h) (Or.inl ⟨by rfl, ?_⟩) (by assumption) ?_
      rotate_left
      · intro w hSw; (try dsimp only at hSw); go_simp; (try with_reducible rfl)
      (try simp only [Act.put, List.setIfInBounds_toArray, List.set_cons_zero, List.set_cons_succ])
      refine wpAnyH_take (i := 11) (oi := { dst := some 121, op := Op.indexAddr 62 (Operand.tmp 23) (Operand.tmp 120), type := 0, pos := "zz_law_s3980b.go:53", after := #[{ on := 10, ground := Ground.data }], guard := none }) (v := ?_) rfl (by kernel_rfl) (by kernel_rfl) (by kernel_rfl) (fun _ _ _ h => h) (Or.inl ⟨by rfl, ?_⟩) (by assumption) ?_
      rotate_left
      · intro w hSw; (try dsimp only at hSw); go_simp; (try with_reducible rfl)
      (try simp only [Act.put, List.setIfInBounds_toArray, List.set_cons_zero, List.set_cons_succ])
      refine wpAnyH_take (i := 12) (oi := { dst := some 122, op := Op.load 61 (Operand.tmp 121), type := 61, pos := "zz_law_s3980b.go:53", after := #[{ on := 11, ground := Ground.data }], guard := none }) (v := ?_) rfl (by kernel_rfl) (by kernel_rfl) (by kernel_rfl) (fun _ _ _ h => h) (Or.inl ⟨by rfl, ?_⟩) (by assumption) ?_
      rotate_left
      · intro w hSw; (try dsimp only at hSw); go_simp; (try with_reducible rfl)
      (try simp only [Act.put, List.setIfInBounds_toArray, List.set_cons_zero, List.set_cons_succ])
      refine wpAnyH_take (i := 13) (oi := { dst := some 123, op := Op.fieldAddr 64 (Operand.tmp 25) 1, type := 0, pos := "zz_law_s3980b.go:53", after := #[], guard := none }) (v := ?_) rfl (by kernel_rfl) (by kernel_rfl) (by kernel_rfl) (fun _ _ _ h => h) (Or.inl ⟨by rfl, ?_⟩) (by assumption) ?_
      rotate_left
      · intro w hSw; (try dsimp only at hSw); go_simp; (try with_reducible rfl)
      (try simp only [Act.put, List.setIfInBounds_toArray, List.set_cons_zero, List.set_cons_succ])
      refine wpAnyH_take (i := 14) (oi := { dst := some 124, op := Op.load 5 (Operand.tmp 123), type := 5, pos := "zz_law_s3980b.go:53", after := #[{ on := 13, ground := Ground.data }], guard := none }) (v := ?_) rfl (by kernel_rfl) (by kernel_rfl) (by kernel_rfl) (fun _ _ _ h => h) (Or.inl ⟨by rfl, ?_⟩) (by assumption) ?_
      rotate_left
      · intro w hSw; (try dsimp only at hSw); go_simp; (try with_reducible rfl)
      (try simp only [Act.put, List.setIfInBounds_toArray, List.set_cons_zero, List.set_cons_succ])
      refine wpAnyH_take (i := 16) (oi := { dst := some 126, op := Op.fieldAddr 64 (Operand.tmp 25) 3, type := 0, pos := "zz_law_s3980b.go:53", after := #[], guard := none }) (v := ?_) rfl (by kernel_rfl) (by kernel_rfl) (by kernel_rfl) (fun _ _ _ h => h) (Or.inl ⟨by rfl, ?_⟩) (by assumption) ?_
      rotate_left
      · intro w hSw; (try dsimp only at hSw); go_simp; (try with_reducible rfl)
      (try simp only [Act.put, List.setIfInBounds_toArray, List.set_cons_zero, List.set_cons_succ])
      refine wpAnyH_take (i := 17) (oi := { dst := some 127, op := Op.load 23 (Operand.tmp 126), type := 23, pos := "zz_law_s3980b.go:53", after := #[{ on := 16, ground := Ground.data }], guard := none }) (v := ?_) rfl (by kernel_rfl) (by kernel_rfl) (by kernel_rfl) (fun _ _ _ h => h) (Or.inl ⟨by rfl, ?_⟩) (by assumption) ?_
      rotate_left
      · intro w hSw; (try dsimp only at hSw); go_simp; (try with_reducible rfl)
      (try simp only [Act.put, List.setIfInBounds_toArray, List.set_cons_zero, List.set_cons_succ])
      refine wpAnyH_ready (rs := [4, 15]) (by kernel_rfl) (by simp) ?_
      refine AllReadyH.cons (o := { dst := some 114, op := Op.load 52 (Operand.tmp 113), type := 52, pos := "zz_law_s3980b.go:53", after := #[{ on := 3, ground := Ground.data }], guard := none }) rfl (fun K hK => ?_) ?_
      · go_simp
        (try go_wp2_with fail)
        refine hK.out _ _ ⟨q0, q1, q2, q3, q4⟩ (fun hHeld => ?_)
        clear hK K
        (try simp only [Act.put, List.setIfInBounds_toArray, List.set_cons_zero, List.set_cons_succ])
        refine wpAnyH_ready (rs := [15]) (by kernel_rfl) (by simp) ?_
        refine AllReadyH.cons (o := { dst := some 125, op := Op.call { callee := Callee.value (Operand.func 4), args := #[Operand.tmp 124], argTypes := #[5] }, type := 9, pos := "zz_law_s3980b.go:53", after := #[{ on := 14, ground := Ground.data }], guard := none }) rfl (fun K hK => ?_) AllReadyH.nil
        go_simp
        go_at_call 4
        refine (hn _).mono ?_
        rintro e1 w4 ⟨rfl, k4⟩
        have S4 := Sq.quiet k4
        have S5 := S4.newBlk #[.int .u64 num, .int .u8 (kd r : Nat), .string fr, .int .u64 sq, .int .u64 0, .int .i64 0, .pointer none, .bool false] 69
        have z0 := k4.st q0
        have z1 := k4.st q1
        have z2 := k4.st q2
        have z3 := k4.st q3
        have z4 := k4.st q4
        have z5 : w4.cell? ⟨bco, 12, none⟩ = some (.slice va m vc) := by rw [cell_of_row _ bco 12 _ 60 (0, 0) S4.tail.head]; exact h12
        have ka := (Keeps.refl (fun _ => False) w4).alloc (.cells #[.int .u64 num, .int .u8 (kd r : Nat), .string fr, .int .u64 sq, .int .u64 0, .int .i64 0, .pointer none, .bool false] 69)
        have a0 := ka.st z0
        have a1 := ka.st z1
        have a2 := ka.st z2
        have a3 := ka.st z3
        have a4 := ka.st z4
        have a5 := ka.st z5
        (try go_wp2_with fail)
        refine hK.out _ _ ⟨z0, z1, z2, z3, z4⟩ (fun hHeld => ?_)
        clear hK K
        (try simp only [Act.put, List.setIfInBounds_toArray, List.set_cons_zero, List.set_cons_succ])
        refine wpAnyH_take (i := 18) (oi := { dst := some 128, op := Op.build 66 #[(0, Operand.tmp 116), (1, Operand.tmp 122), (2, Operand.tmp 125), (3, Operand.tmp 127)], type := 66, pos := "zz_law_s3980b.go:53", after := #[{ on := 6, ground := Ground.data }, { on := 12, ground := Ground.data }, { on := 15, ground := Ground.data }, { on := 17, ground := Ground.data }], guard := none }) (v := ?_) rfl (by kernel_rfl) (by kernel_rfl) (by kernel_rfl) (fun _ _ _ h => h) (Or.inl ⟨by rfl, ?_⟩) (by assumption) ?_
        rotate_left
        · intro w hSw; (try dsimp only at hSw); go_simp; (try with_reducible rfl)
        (try simp only [Act.put, List.setIfInBounds_toArray, List.set_cons_zero, List.set_cons_succ])
        refine wpAnyH_take (i := 19) (oi := { dst := some 129, op := Op.build 69 #[(0, Operand.tmp 128)], type := 69, pos := "zz_law_s3980b.go:53", after := #[{ on := 18, ground := Ground.data }], guard := none }) (v := ?_) rfl (by kernel_rfl) (by kernel_rfl) (by kernel_rfl) (fun _ _ _ h => h) (Or.inl ⟨by rfl, ?_⟩) (by assumption) ?_
        rotate_left
        · intro w hSw; (try dsimp only at hSw); go_simp; (try with_reducible rfl)
        (try simp only [Act.put, List.setIfInBounds_toArray, List.set_cons_zero, List.set_cons_succ])
        refine wpAnyH_ready (rs := [20]) (by kernel_rfl) (by simp) ?_
        refine AllReadyH.cons (o := { dst := some 130, op := Op.buildSlice 52 1 #[(0, Operand.tmp 129)], type := 52, pos := "zz_law_s3980b.go:53", after := #[{ on := 19, ground := Ground.data }], guard := none }) rfl (fun K hK => ?_) AllReadyH.nil
        go_simp
        (try go_wp2_with fail)
        refine hK.out _ _ ⟨a0, a1, a2, a3, a4⟩ (fun hHeld => ?_)
        clear hK K
        (try simp only [Act.put, List.setIfInBounds_toArray, List.set_cons_zero, List.set_cons_succ])
        refine wpAnyH_ready (rs := [21]) (by kernel_rfl) (by simp) ?_
        refine AllReadyH.cons (o := { dst := some 131, op := Op.call { callee := Callee.builtin Builtin.append, args := #[Operand.tmp 114, Operand.tmp 130], argTypes := #[52, 52] }, type := 52, pos := "zz_law_s3980b.go:53", after := #[{ on := 4, ground := Ground.data }, { on := 20, ground := Ground.data }, { on := 15, ground := Ground.chain }], guard := none }) rfl (fun K hK => ?_) AllReadyH.nil
        refine step_app rfl (.tmp 114) (.tmp 130) 52 rfl 69 i69 (.agg #[.int .u64 0, .int .u8 0, .string ⟨#[]⟩, .int .u64 0, .int .u64 0, .int .i64 0, .pointer none, .bool false]) 8 72 Yba.underlying52 hi69 hz69 hs69 hb69 rfl (by omega) (.slice va m vc) m (ccells ((sts.take m).map decOf)) rfl S5.p4.head (.slice (some ⟨w4.heap.size, 0, none⟩) 1 1) rfl 1 #[.int .u64 num, .int .u8 (kd r : Nat), .string fr, .int .u64 sq, .int .u64 0, .int .i64 0, .pointer none, .bool false].toList (Src.cells (cs := #[.int .u64 num, .int .u8 (kd r : Nat), .string fr, .int .u64 sq, .int .u64 0, .int .i64 0, .pointer none, .bool false]) (t := 69) S5.head (by simp [Value.oneCell'])) (by unfold maxLen; omega) (by omega) ?_
        intro x9 w9 hA9 hn9
        obtain ⟨xa, xc, rfl⟩ := own_sliceB hA9.own
        have S9 := S5.p4.app hA9
        have m25 : w9.heap[b25]? = _ := S9.p3.head
        have mbk : w9.heap[bk]? = _ := S9.p5.head
        have mbo : w9.heap[bco]? = _ := S9.p4.head
        have f0 : w9.cell? ⟨b25, 0, none⟩ = some (.int .u8 k) := cell_of_row _ b25 0 _ 64 (0, 0) m25
        have f1 : w9.cell? ⟨b25, 1, none⟩ = some (.int .u8 wh) := cell_of_row _ b25 1 _ 64 (0, 0) m25
        have f2 : w9.cell? ⟨b25, 2, none⟩ = some (.int .u64 num) := cell_of_row _ b25 2 _ 64 (0, 0) m25
        have f3 : w9.cell? ⟨b25, 3, none⟩ = some (.int .u64 sq) := cell_of_row _ b25 3 _ 64 (0, 0) m25
        have f4 : w9.cell? ⟨bk, r, none⟩ = some (.int .u8 (kd r : Nat)) := by rw [cell_of_row _ bk r _ 62 (0, 0) mbk]; exact hkd
        have f5 : w9.cell? ⟨bco, 12, none⟩ = some (.slice va m vc) := by rw [cell_of_row _ bco 12 _ 60 (0, 0) mbo]; exact h12
        have f6 : w9.frozen? ⟨bco, 12, none⟩ = false := frozen_of_row _ bco 12 _ 60 mbo
        (try go_wp2_with fail)
        refine hK.out _ _ ⟨f0, f1, f2, f3, f4⟩ (fun hHeld => ?_)
        clear hK K
        (try simp only [Act.put, List.setIfInBounds_toArray, List.set_cons_zero, List.set_cons_succ])
        refine wpAnyH_take (i := 22) (oi := { dst := some 132, op := Op.nilCheck (Operand.tmp 110), type := 0, pos := "zz_law_s3980b.go:53", after := #[{ on := 0, ground := Ground.data }, { on := 0, ground := Ground.phase }, { on := 1, ground := Ground.phase }, { on := 2, ground := Ground.phase }, { on := 3, ground := Ground.phase }, { on := 4, ground := Ground.phase }, { on := 5, ground := Ground.phase }, { on := 6, ground := Ground.phase }, { on := 7, ground := Ground.phase }, { on := 8, ground := Ground.phase }, { on := 9, ground := Ground.phase }, { on := 10, ground := Ground.phase }, { on := 11, ground := Ground.phase }, { on := 12, ground := Ground.phase }, { on := 13, ground := Ground.phase }, { on := 14, ground := Ground.phase }, { on := 15, ground := Ground.phase }, { on := 16, ground := Ground.phase }, { on := 17, ground := Ground.phase }, { on := 18, ground := Ground.phase }, { on := 19, ground := Ground.phase }, { on := 20, ground := Ground.phase }, { on := 21, ground := Ground.phase }], guard := none }) (v := ?_) rfl (by kernel_rfl) (by kernel_rfl) (by kernel_rfl) (fun _ _ _ h => h) (Or.inl ⟨by rfl, ?_⟩) (by assumption) ?_
        rotate_left
        · intro w hSw; (try dsimp only at hSw); go_simp; (try with_reducible rfl)
        (try simp only [Act.put, List.setIfInBounds_toArray, List.set_cons_zero, List.set_cons_succ])
        refine wpAnyH_take (i := 23) (oi := { dst := some 133, op := Op.fieldAddr 60 (Operand.tmp 132) 12, type := 0, pos := "zz_law_s3980b.go:53", after := #[{ on := 22, ground := Ground.data }, { on := 0, ground := Ground.phase }, { on := 1, ground := Ground.phase }, { on := 2, ground := Ground.phase }, { on := 3, ground := Ground.phase }, { on := 4, ground := Ground.phase }, { on := 5, ground := Ground.phase }, { on := 6, ground := Ground.phase }, { on := 7, ground := Ground.phase }, { on := 8, ground := Ground.phase }, { on := 9, ground := Ground.phase }, { on := 10, ground := Ground.phase }, { on := 11, ground := Ground.phase }, { on := 12, ground := Ground.phase }, { on := 13, ground := Ground.phase }, { on := 14, ground := Ground.phase }, { on := 15, ground := Ground.phase }, { on := 16, ground := Ground.phase }, { on := 17, ground := Ground.phase }, { on := 18, ground := Ground.phase }, { on := 19, ground := Ground.phase }, { on := 20, ground := Ground.phase }, { on := 21, ground := Ground.phase }], guard := none }) (v := ?_) rfl (by kernel_rfl) (by kernel_rfl) (by kernel_rfl) (fun _ _ _ h => h) (Or.inl ⟨by rfl, ?_⟩) (by assumption) ?_
        rotate_left
        · intro w hSw; (try dsimp only at hSw); go_simp; (try with_reducible rfl)
        (try simp only [Act.put, List.setIfInBounds_toArray, List.set_cons_zero, List.set_cons_succ])
        refine wpAnyH_ready (rs := [24]) (by kernel_rfl) (by simp) ?_
        refine AllReadyH.cons (o := { dst := none, op := Op.store 52 (Operand.tmp 133) (Operand.tmp 131), type := 0, pos := "zz_law_s3980b.go:53", after := #[{ on := 23, ground := Ground.data }, { on := 21, ground := Ground.data }, { on := 21, ground := Ground.chain }, { on := 0, ground := Ground.phase }, { on := 1, ground := Ground.phase }, { on := 2, ground := Ground.phase }, { on := 3, ground := Ground.phase }, { on := 4, ground := Ground.phase }, { on := 5, ground := Ground.phase }, { on := 6, ground := Ground.phase }, { on := 7, ground := Ground.phase }, { on := 8, ground := Ground.phase }, { on := 9, ground := Ground.phase }, { on := 10, ground := Ground.phase }, { on := 11, ground := Ground.phase }, { on := 12, ground := Ground.phase }, { on := 13, ground := Ground.phase }, { on := 14, ground := Ground.phase }, { on := 15, ground := Ground.phase }, { on := 16, ground := Ground.phase }, { on := 17, ground := Ground.phase }, { on := 18, ground := Ground.phase }, { on := 19, ground := Ground.phase }, { on := 20, ground := Ground.phase }, { on := 21, ground := Ground.phase }], guard := none }) rfl (fun K hK => ?_) AllReadyH.nil
        have S10 := S9.p4.blkSet 12 (.slice xa (m + 1) xc)
        have t25 := S10.p4.head
        have tbk := S10.p5.head
        have t0 := cell_of_row _ b25 0 _ 64 (0, 0) t25
        have t1 := cell_of_row _ b25 1 _ 64 (0, 0) t25
        have t2 := cell_of_row _ b25 2 _ 64 (0, 0) t25
        have t3 := cell_of_row _ b25 3 _ 64 (0, 0) t25
        have t4 : (w9.setCell ⟨bco, 12, none⟩ (.slice xa (m + 1) xc)).cell? ⟨bk, r, none⟩ = some (.int .u8 (kd r : Nat)) := by rw [cell_of_row _ bk r _ 62 (0, 0) tbk]; exact hkd
        go_simp
        (try go_wp2_with fail)
        refine hK.out _ _ ⟨t0, t1, t2, t3, t4⟩ (fun hHeld => ?_)
        clear hK K
        (try simp only [Act.put, List.setIfInBounds_toArray, List.set_cons_zero, List.set_cons_succ])
        refine wpAnyH_done (by kernel_rfl) ?_ _
        refine NoPanic.normal ?_
        have S11 := S10.p3.tail.p3.tail
        have HS := Hid.mk' S11
        clear S11 S10 S9 t0 t1 t2 t3 t4 t25 tbk hHeld m25 mbk mbo f0 f1 f2 f3 f4 f5 f6 hA9 S5 S4 Sq S1
        go_wp2
        go_roundw
        case rel =>
          refine ⟨m + 1, .slice xa (m + 1) xc, by omega, by go_num, ?_⟩
          rw [HTD.out, ccells_append, ← set_set cs0 12 (.slice va m vc), HCSE.out, show ccells [decOf (k, wh, num, sq)] = [.int .u64 num, .int .u8 (kd r : Nat), .string fr, .int .u64 sq, .int .u64 0, .int .i64 0, .pointer none, .bool false] by rw [← HR.out, ← HFR.out]; rfl]
          exact HS.out
        case measure => simp [intOf]; omega
      · refine AllReadyH.cons (o := { dst := some 125, op := Op.call { callee := Callee.value (Operand.func 4), args := #[Operand.tmp 124], argTypes := #[5] }, type := 9, pos := "zz_law_s3980b.go:53", after := #[{ on := 14, ground := Ground.data }], guard := none }) rfl (fun K hK => ?_) AllReadyH.nil
        go_simp
        go_at_call 4
        refine (hn _).mono ?_
        rintro e1 w4 ⟨rfl, k4⟩
        have S4 := Sq.quiet k4
        have S5 := S4.newBlk #[.int .u64 num, .int .u8 (kd r : Nat), .string fr, .int .u64 sq, .int .u64 0, .int .i64 0, .pointer none, .bool false] 69
        have z0 := k4.st q0
        have z1 := k4.st q1
        have z2 := k4.st q2
        have z3 := k4.st q3
        have z4 := k4.st q4
        have z5 : w4.cell? ⟨bco, 12, none⟩ = some (.slice va m vc) := by rw [cell_of_row _ bco 12 _ 60 (0, 0) S4.tail.head]; exact h12
        have ka := (Keeps.refl (fun _ => False) w4).alloc (.cells #[.int .u64 num, .int .u8 (kd r : Nat), .string fr, .int .u64 sq, .int .u64 0, .int .i64 0, .pointer none, .bool false] 69)
        have a0 := ka.st z0
        have a1 := ka.st z1
        have a2 := ka.st z2
        have a3 := ka.st z3
        have a4 := ka.st z4
        have a5 := ka.st z5
        (try go_wp2_with fail)
        refine hK.out _ _ ⟨z0, z1, z2, z3, z4⟩ (fun hHeld => ?_)
        clear hK K
        (try simp only [Act.put, List.setIfInBounds_toArray, List.set_cons_zero, List.set_cons_succ])
        refine wpAnyH_take (i := 18) (oi := { dst := some 128, op := Op.build 66 #[(0, Operand.tmp 116), (1, Operand.tmp 122), (2, Operand.tmp 125), (3, Operand.tmp 127)], type := 66, pos := "zz_law_s3980b.go:53", after := #[{ on := 6, ground := Ground.data }, { on := 12, ground := Ground.data }, { on := 15, ground := Ground.data }, { on := 17, ground := Ground.data }], guard := none }) (v := ?_) rfl (by kernel_rfl) (by kernel_rfl) (by kernel_rfl) (fun _ _ _ h => h) (Or.inl ⟨by rfl, ?_⟩) (by assumption) ?_
        rotate_left
        · intro w hSw; (try dsimp only at hSw); go_simp; (try with_reducible rfl)
        (try simp only [Act.put, List.setIfInBounds_toArray, List.set_cons_zero, List.set_cons_succ])
        refine wpAnyH_take (i := 19) (oi := { dst := some 129, op := Op.build 69 #[(0, Operand.tmp 128)], type := 69, pos := "zz_law_s3980b.go:53", after := #[{ on := 18, ground := Ground.data }], guard := none }) (v := ?_) rfl (by kernel_rfl) (by kernel_rfl) (by kernel_rfl) (fun _ _ _ h => h) (Or.inl ⟨by rfl, ?_⟩) (by assumption) ?_
        rotate_left
        · intro w hSw; (try dsimp only at hSw); go_simp; (try with_reducible rfl)
        (try simp only [Act.put, List.setIfInBounds_toArray, List.set_cons_zero, List.set_cons_succ])
        refine wpAnyH_ready (rs := [4, 20]) (by kernel_rfl) (by simp) ?_
        refine AllReadyH.cons (o := { dst := some 114, op := Op.load 52 (Operand.tmp 113), type := 52, pos := "zz_law_s3980b.go:53", after := #[{ on := 3, ground := Ground.data }], guard := none }) rfl (fun K hK => ?_) ?_
        · go_simp
          (try go_wp2_with fail)
          refine hK.out _ _ ⟨z0, z1, z2, z3, z4⟩ (fun hHeld => ?_)
          clear hK K
          (try simp only [Act.put, List.setIfInBounds_toArray, List.set_cons_zero, List.set_cons_succ])
          refine wpAnyH_ready (rs := [20]) (by kernel_rfl) (by simp) ?_
          refine AllReadyH.cons (o := { dst := some 130, op := Op.buildSlice 52 1 #[(0, Operand.tmp 129)], type := 52, pos := "zz_law_s3980b.go:53", after := #[{ on := 19, ground := Ground.data }], guard := none }) rfl (fun K hK => ?_) AllReadyH.nil
          go_simp
          (try go_wp2_with fail)
          refine hK.out _ _ ⟨a0, a1, a2, a3, a4⟩ (fun hHeld => ?_)
          clear hK K
          (try simp only [Act.put, List.setIfInBounds_toArray, List.set_cons_zero, List.set_cons_succ])
          refine wpAnyH_ready (rs := [21]) (by kernel_rfl) (by simp) ?_
          refine AllReadyH.cons (o := { dst := some 131, op := Op.call { callee := Callee.builtin Builtin.append, args := #[Operand.tmp 114, Operand.tmp 130], argTypes := #[52, 52] }, type := 52, pos := "zz_law_s3980b.go:53", after := #[{ on := 4, ground := Ground.data }, { on := 20, ground := Ground.data }, { on := 15, ground := Ground.chain }], guard := none }) rfl (fun K hK => ?_) AllReadyH.nil
          refine step_app rfl (.tmp 114) (.tmp 130) 52 rfl 69 i69 (.agg #[.int .u64 0, .int .u8 0, .string ⟨#[]⟩, .int .u64 0, .int .u64 0, .int .i64 0, .pointer none, .bool false]) 8 72 Yba.underlying52 hi69 hz69 hs69 hb69 rfl (by omega) (.slice va m vc) m (ccells ((sts.take m).map decOf)) rfl S5.p4.head (.slice (some ⟨w4.heap.size, 0, none⟩) 1 1) rfl 1 #[.int .u64 num, .int .u8 (kd r : Nat), .string fr, .int .u64 sq, .int .u64 0, .int .i64 0, .pointer none, .bool false].toList (Src.cells (cs := #[.int .u64 num, .int .u8 (kd r : Nat), .string fr, .int .u64 sq, .int .u64 0, .int .i64 0, .pointer none, .bool false]) (t := 69) S5.head (by simp [Value.oneCell'])) (by unfold maxLen; omega) (by omega) ?_
          intro x9 w9 hA9 hn9
          obtain ⟨xa, xc, rfl⟩ := own_sliceB hA9.own
          have S9 := S5.p4.app hA9
          have m25 : w9.heap[b25]? = _ := S9.p3.head
          have mbk : w9.heap[bk]? = _ := S9.p5.head
          have mbo : w9.heap[bco]? = _ := S9.p4.head
          have f0 : w9.cell? ⟨b25, 0, none⟩ = some (.int .u8 k) := cell_of_row _ b25 0 _ 64 (0, 0) m25
          have f1 : w9.cell? ⟨b25, 1, none⟩ = some (.int .u8 wh) := cell_of_row _ b25 1 _ 64 (0, 0) m25
          have f2 : w9.cell? ⟨b25, 2, none⟩ = some (.int .u64 num) := cell_of_row _ b25 2 _ 64 (0, 0) m25
          have f3 : w9.cell? ⟨b25, 3, none⟩ = some (.int .u64 sq) := cell_of_row _ b25 3 _ 64 (0, 0) m25
          have f4 : w9.cell? ⟨bk, r, none⟩ = some (.int .u8 (kd r : Nat)) := by rw [cell_of_row _ bk r _ 62 (0, 0) mbk]; exact hkd
          have f5 : w9.cell? ⟨bco, 12, none⟩ = some (.slice va m vc) := by rw [cell_of_row _ bco 12 _ 60 (0, 0) mbo]; exact h12
          have f6 : w9.frozen? ⟨bco, 12, none⟩ = false := frozen_of_row _ bco 12 _ 60 mbo
          (try go_wp2_with fail)
          refine hK.out _ _ ⟨f0, f1, f2, f3, f4⟩ (fun hHeld => ?_)
          clear hK K
          (try simp only [Act.put, List.setIfInBounds_toArray, List.set_cons_zero, List.set_cons_succ])
          refine wpAnyH_take (i := 22) (oi := { dst := some 132, op := Op.nilCheck (Operand.tmp 110), type := 0, pos := "zz_law_s3980b.go:53", after := #[{ on := 0, ground := Ground.data }, { on := 0, ground := Ground.phase }, { on := 1, ground := Ground.phase }, { on := 2, ground := Ground.phase }, { on := 3, ground := Ground.phase }, { on := 4, ground := Ground.phase }, { on := 5, ground := Ground.phase }, { on := 6, ground := Ground.phase }, { on := 7, ground := Ground.phase }, { on := 8, ground := Ground.phase }, { on := 9, ground := Ground.phase }, { on := 10, ground := Ground.phase }, { on := 11, ground := Ground.phase }, { on := 12, ground := Ground.phase }, { on := 13, ground := Ground.phase }, { on := 14, ground := Ground.phase }, { on := 15, ground := Ground.phase }, { on := 16, ground := Ground.phase }, { on := 17, ground := Ground.phase }, { on := 18, ground := Ground.phase }, { on := 19, ground := Ground.phase }, { on := 20, ground := Ground.phase }, { on := 21, ground := Ground.phase }], guard := none }) (v := ?_) rfl (by kernel_rfl) (by kernel_rfl) (by kernel_rfl) (fun _ _ _ h => h) (Or.inl ⟨by rfl, ?_⟩) (by assumption) ?_
          rotate_left
          · intro w hSw; (try dsimp only at hSw); go_simp; (try with_reducible rfl)
          (try simp only [Act.put, List.setIfInBounds_toArray, List.set_cons_zero, List.set_cons_succ])
          refine wpAnyH_take (i := 23) (oi := { dst := some 133, op := Op.fieldAddr 60 (Operand.tmp 132) 12, type := 0, pos := "zz_law_s3980b.go:53", after := #[{ on := 22, ground := Ground.data }, { on := 0, ground := Ground.phase }, { on := 1, ground := Ground.phase }, { on := 2, ground := Ground.phase }, { on := 3, ground := Ground.phase }, { on := 4, ground := Ground.phase }, { on := 5, ground := Ground.phase }, { on := 6, ground := Ground.phase }, { on := 7, ground := Ground.phase }, { on := 8, ground := Ground.phase }, { on := 9, ground := Ground.phase }, { on := 10, ground := Ground.phase }, { on := 11, ground := Ground.phase }, { on := 12, ground := Ground.phase }, { on := 13, ground := Ground.phase }, { on := 14, ground := Ground.phase }, { on := 15, ground := Ground.phase }, { on := 16, ground := Ground.phase }, { on := 17, ground := Ground.phase }, { on := 18, ground := Ground.phase }, { on := 19, ground := Ground.phase }, { on := 20, ground := Ground.phase }, { on := 21, ground := Ground.phase }], guard := none }) (v := ?_) rfl (by kernel_rfl) (by kernel_rfl) (by kernel_rfl) (fun _ _ _ h => h) (Or.inl ⟨by rfl, ?_⟩) (by assumption) ?_
          rotate_left
          · intro w hSw; (try dsimp only at hSw); go_simp; (try with_reducible rfl)
          (try simp only [Act.put, List.setIfInBounds_toArray, List.set_cons_zero, List.set_cons_succ])
          refine wpAnyH_ready (rs := [24]) (by kernel_rfl) (by simp) ?_
          refine AllReadyH.cons (o := { dst := none, op := Op.store 52 (Operand.tmp 133) (Operand.tmp 131), type := 0, pos := "zz_law_s3980b.go:53", after := #[{ on := 23, ground := Ground.data }, { on := 21, ground := Ground.data }, { on := 21, ground := Ground.chain }, { on := 0, ground := Ground.phase }, { on := 1, ground := Ground.phase }, { on := 2, ground := Ground.phase }, { on := 3, ground := Ground.phase }, { on := 4, ground := Ground.phase }, { on := 5, ground := Ground.phase }, { on := 6, ground := Ground.phase }, { on := 7, ground := Ground.phase }, { on := 8, ground := Ground.phase }, { on := 9, ground := Ground.phase }, { on := 10, ground := Ground.phase }, { on := 11, ground := Ground.phase }, { on := 12, ground := Ground.phase }, { on := 13, ground := Ground.phase }, { on := 14, ground := Ground.phase }, { on := 15, ground := Ground.phase }, { on := 16, ground := Ground.phase }, { on := 17, ground := Ground.phase }, { on := 18, ground := Ground.phase }, { on := 19, ground := Ground.phase }, { on := 20, ground := Ground.phase }, { on := 21, ground := Ground.phase }], guard := none }) rfl (fun K hK => ?_) AllReadyH.nil
          have S10 := S9.p4.blkSet 12 (.slice xa (m + 1) xc)
          have t25 := S10.p4.head
          have tbk := S10.p5.head
          have t0 := cell_of_row _ b25 0 _ 64 (0, 0) t25
          have t1 := cell_of_row _ b25 1 _ 64 (0, 0) t25
          have t2 := cell_of_row _ b25 2 _ 64 (0, 0) t25
          have t3 := cell_of_row _ b25 3 _ 64 (0, 0) t25
          have t4 : (w9.setCell ⟨bco, 12, none⟩ (.slice xa (m + 1) xc)).cell? ⟨bk, r, none⟩ = some (.int .u8 (kd r : Nat)) := by rw [cell_of_row _ bk r _ 62 (0, 0) tbk]; exact hkd
          go_simp
          (try go_wp2_with fail)
          refine hK.out _ _ ⟨t0, t1, t2, t3, t4⟩ (fun hHeld => ?_)
          clear hK K
          (try simp only [Act.put, List.setIfInBounds_toArray, List.set_cons_zero, List.set_cons_succ])
          refine wpAnyH_done (by kernel_rfl) ?_ _
          refine NoPanic.normal ?_
          have S11 := S10.p3.tail.p3.tail
          have HS := Hid.mk' S11
          clear S11 S10 S9 t0 t1 t2 t3 t4 t25 tbk hHeld m25 mbk mbo f0 f1 f2 f3 f4 f5 f6 hA9 S5 S4 Sq S1
          go_wp2
          go_roundw
          case rel =>
            refine ⟨m + 1, .slice xa (m + 1) xc, by omega, by go_num, ?_⟩
            rw [HTD.out, ccells_append, ← set_set cs0 12 (.slice va m vc), HCSE.out, show ccells [decOf (k, wh, num, sq)] = [.int .u64 num, .int .u8 (kd r : Nat), .string fr, .int .u64 sq, .int .u64 0, .int .i64 0, .pointer none, .bool false] by rw [← HR.out, ← HFR.out]; rfl]
            exact HS.out
          case measure => simp [intOf]; omega
        · refine AllReadyH.cons (o := { dst := some 130, op := Op.buildSlice 52 1 #[(0, Operand.tmp 129)], type := 52, pos := "zz_law_s3980b.go:53", after := #[{ on := 19, ground := Ground.data }], guard := none }) rfl (fun K hK => ?_) AllReadyH.nil
          go_simp
          (try go_wp2_with fail)
          refine hK.out _ _ ⟨a0, a1, a2, a3, a4⟩ (fun hHeld => ?_)
          clear hK K
          (try simp only [Act.put, List.setIfInBounds_toArray, List.set_cons_zero, List.set_cons_succ])
          refine wpAnyH_ready (rs := [4]) (by kernel_rfl) (by simp) ?_
          refine AllReadyH.cons (o := { dst := some 114, op := Op.load 52 (Operand.tmp 113), type := 52, pos := "zz_law_s3980b.go:53", after := #[{ on := 3, ground := Ground.data }], guard := none }) rfl (fun K hK => ?_) AllReadyH.nil
          go_simp
          (try go_wp2_with fail)
          refine hK.out _ _ ⟨a0, a1, a2, a3, a4⟩ (fun hHeld => ?_)
          clear hK K
          (try simp only [Act.put, List.setIfInBounds_toArray, List.set_cons_zero, List.set_cons_succ])
          refine wpAnyH_ready (rs := [21]) (by kernel_rfl) (by simp) ?_
          refine AllReadyH.cons (o := { dst := some 131, op := Op.call { callee := Callee.builtin Builtin.append, args := #[Operand.tmp 114, Operand.tmp 130], argTypes := #[52, 52] }, type := 52, pos := "zz_law_s3980b.go:53", after := #[{ on := 4, ground := Ground.data }, { on := 20, ground := Ground.data }, { on := 15, ground := Ground.chain }], guard := none }) rfl (fun K hK => ?_) AllReadyH.nil
          refine step_app rfl (.tmp 114) (.tmp 130) 52 rfl 69 i69 (.agg #[.int .u64 0, .int .u8 0, .string ⟨#[]⟩, .int .u64 0, .int .u64 0, .int .i64 0, .pointer none, .bool false]) 8 72 Yba.underlying52 hi69 hz69 hs69 hb69 rfl (by omega) (.slice va m vc) m (ccells ((sts.take m).map decOf)) rfl S5.p4.head (.slice (some ⟨w4.heap.size, 0, none⟩) 1 1) rfl 1 #[.int .u64 num, .int .u8 (kd r : Nat), .string fr, .int .u64 sq, .int .u64 0, .int .i64 0, .pointer none, .bool false].toList (Src.cells (cs := #[.int .u64 num, .int .u8 (kd r : Nat), .string fr, .int .u64 sq, .int .u64 0, .int .i64 0, .pointer none, .bool false]) (t := 69) S5.head (by simp [Value.oneCell'])) (by unfold maxLen; omega) (by omega) ?_
          intro x9 w9 hA9 hn9
          obtain ⟨xa, xc, rfl⟩ := own_sliceB hA9.own
          have S9 := S5.p4.app hA9
          have m25 : w9.heap[b25]? = _ := S9.p3.head
          have mbk : w9.heap[bk]? = _ := S9.p5.head
          have mbo : w9.heap[bco]? = _ := S9.p4.head
          have f0 : w9.cell? ⟨b25, 0, none⟩ = some (.int .u8 k) := cell_of_row _ b25 0 _ 64 (0, 0) m25
          have f1 : w9.cell? ⟨b25, 1, none⟩ = some (.int .u8 wh) := cell_of_row _ b25 1 _ 64 (0, 0) m25
          have f2 : w9.cell? ⟨b25, 2, none⟩ = some (.int .u64 num) := cell_of_row _ b25 2 _ 64 (0, 0) m25
          have f3 : w9.cell? ⟨b25, 3, none⟩ = some (.int .u64 sq) := cell_of_row _ b25 3 _ 64 (0, 0) m25
          have f4 : w9.cell? ⟨bk, r, none⟩ = some (.int .u8 (kd r : Nat)) := by rw [cell_of_row _ bk r _ 62 (0, 0) mbk]; exact hkd
          have f5 : w9.cell? ⟨bco, 12, none⟩ = some (.slice va m vc) := by rw [cell_of_row _ bco 12 _ 60 (0, 0) mbo]; exact h12
          have f6 : w9.frozen? ⟨bco, 12, none⟩ = false := frozen_of_row _ bco 12 _ 60 mbo
          (try go_wp2_with fail)
          refine hK.out _ _ ⟨f0, f1, f2, f3, f4⟩ (fun hHeld => ?_)
          clear hK K
          (try simp only [Act.put, List.setIfInBounds_toArray, List.set_cons_zero, List.set_cons_succ])
          refine wpAnyH_take (i := 22) (oi := { dst := some 132, op := Op.nilCheck (Operand.tmp 110), type := 0, pos := "zz_law_s3980b.go:53", after := #[{ on := 0, ground := Ground.data }, { on := 0, ground := Ground.phase }, { on := 1, ground := Ground.phase }, { on := 2, ground := Ground.phase }, { on := 3, ground := Ground.phase }, { on := 4, ground := Ground.phase }, { on := 5, ground := Ground.phase }, { on := 6, ground := Ground.phase }, { on := 7, ground := Ground.phase }, { on := 8, ground := Ground.phase }, { on := 9, ground := Ground.phase }, { on := 10, ground := Ground.phase }, { on := 11, ground := Ground.phase }, { on := 12, ground := Ground.phase }, { on := 13, ground := Ground.phase }, { on := 14, ground := Ground.phase }, { on := 15, ground := Ground.phase }, { on := 16, ground := Ground.phase }, { on := 17, ground := Ground.phase }, { on := 18, ground := Ground.phase }, { on := 19, ground := Ground.phase }, { on := 20, ground := Ground.phase }, { on := 21, ground := Ground.phase }], guard := none }) (v := ?_) rfl (by kernel_rfl) (by kernel_rfl) (by kernel_rfl) (fun _ _ _ h => h) (Or.inl ⟨by rfl, ?_⟩) (by assumption) ?_
          rotate_left
          · intro w hSw; (try dsimp only at hSw); go_simp; (try with_reducible rfl)
          (try simp only [Act.put, List.setIfInBounds_toArray, List.set_cons_zero, List.set_cons_succ])
          refine wpAnyH_take (i := 23) (oi := { dst := some 133, op := Op.fieldAddr 60 (Operand.tmp 132) 12, type := 0, pos := "zz_law_s3980b.go:53", after := #[{ on := 22, ground := Ground.data }, { on := 0, ground := Ground.phase }, { on := 1, ground := Ground.phase }, { on := 2, ground := Ground.phase }, { on := 3, ground := Ground.phase }, { on := 4, ground := Ground.phase }, { on := 5, ground := Ground.phase }, { on := 6, ground := Ground.phase }, { on := 7, ground := Ground.phase }, { on := 8, ground := Ground.phase }, { on := 9, ground := Ground.phase }, { on := 10, ground := Ground.phase }, { on := 11, ground := Ground.phase }, { on := 12, ground := Ground.phase }, { on := 13, ground := Ground.phase }, { on := 14, ground := Ground.phase }, { on := 15, ground := Ground.phase }, { on := 16, ground := Ground.phase }, { on := 17, ground := Ground.phase }, { on := 18, ground := Ground.phase }, { on := 19, ground := Ground.phase }, { on := 20, ground := Ground.phase }, { on := 21, ground := Ground.phase }], guard := none }) (v := ?_) rfl (by kernel_rfl) (by kernel_rfl) (by kernel_rfl) (fun _ _ _ h => h) (Or.inl ⟨by rfl, ?_⟩) (by assumption) ?_
          rotate_left
          · intro w hSw; (try dsimp only at hSw); go_simp; (try with_reducible rfl)
          (try simp only [Act.put, List.setIfInBounds_toArray, List.set_cons_zero, List.set_cons_succ])
          refine wpAnyH_ready (rs := [24]) (by kernel_rfl) (by simp) ?_
          refine AllReadyH.cons (o := { dst := none, op := Op.store 52 (Operand.tmp 133) (Operand.tmp 131), type := 0, pos := "zz_law_s3980b.go:53", after := #[{ on := 23, ground := Ground.data }, { on := 21, ground := Ground.data }, { on := 21, ground := Ground.chain }, { on := 0, ground := Ground.phase }, { on := 1, ground := Ground.phase }, { on := 2, ground := Ground.phase }, { on := 3, ground := Ground.phase }, { on := 4, ground := Ground.phase }, { on := 5, ground := Ground.phase }, { on := 6, ground := Ground.phase }, { on := 7, ground := Ground.phase }, { on := 8, ground := Ground.phase }, { on := 9, ground := Ground.phase }, { on := 10, ground := Ground.phase }, { on := 11, ground := Ground.phase }, { on := 12, ground := Ground.phase }, { on := 13, ground := Ground.phase }, { on := 14, ground := Ground.phase }, { on := 15, ground := Ground.phase }, { on := 16, ground := Ground.phase }, { on := 17, ground := Ground.phase }, { on := 18, ground := Ground.phase }, { on := 19, ground := Ground.phase }, { on := 20, ground := Ground.phase }, { on := 21, ground := Ground.phase }], guard := none }) rfl (fun K hK => ?_) AllReadyH.nil
          have S10 := S9.p4.blkSet 12 (.slice xa (m + 1) xc)
          have t25 := S10.p4.head
          have tbk := S10.p5.head
          have t0 := cell_of_row _ b25 0 _ 64 (0, 0) t25
          have t1 := cell_of_row _ b25 1 _ 64 (0, 0) t25
          have t2 := cell_of_row _ b25 2 _ 64 (0, 0) t25
          have t3 := cell_of_row _ b25 3 _ 64 (0, 0) t25
          have t4 : (w9.setCell ⟨bco, 12, none⟩ (.slice xa (m + 1) xc)).cell? ⟨bk, r, none⟩ = some (.int .u8 (kd r : Nat)) := by rw [cell_of_row _ bk r _ 62 (0, 0) tbk]; exact hkd
          go_simp
          (try go_wp2_with fail)
          refine hK.out _ _ ⟨t0, t1, t2, t3, t4⟩ (fun hHeld => ?_)
          clear hK K
          (try simp only [Act.put, List.setIfInBounds_toArray, List.set_cons_zero, List.set_cons_succ])
          refine wpAnyH_done (by kernel_rfl) ?_ _
          refine NoPanic.normal ?_
          have S11 := S10.p3.tail.p3.tail
          have HS := Hid.mk' S11
          clear S11 S10 S9 t0 t1 t2 t3 t4 t25 tbk hHeld m25 mbk mbo f0 f1 f2 f3 f4 f5 f6 hA9 S5 S4 Sq S1
          go_wp2
          go_roundw
          case rel =>
            refine ⟨m + 1, .slice xa (m + 1) xc, by omega, by go_num, ?_⟩
            rw [HTD.out, ccells_append, ← set_set cs0 12 (.slice va m vc), HCSE.out, show ccells [decOf (k, wh, num, sq)] = [.int .u64 num, .int .u8 (kd r : Nat), .string fr, .int .u64 sq, .int .u64 0, .int .i64 0, .pointer none, .bool false] by rw [← HR.out, ← HFR.out]; rfl]
            exact HS.out
          case measure => simp [intOf]; omega
    · obtain rfl : m = n := by omega
      have HS := Hid.mk' S
      clear S
      go_wp2
      exact HEND.out _ _ _ _ _ _ _ _ _ _ _ _ _ _ _ _ _ _ _ _ _ _ _ _ _ _ _ _ _ _ _ _ HS.out
end Go.Proofs.Ybulkcdkc
