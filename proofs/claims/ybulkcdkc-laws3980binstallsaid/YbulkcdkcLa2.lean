import Derived.Test.YbulkcdkcLw0
namespace Go.Proofs.Ybulkcdkc
open Go.RowKit

set_option maxHeartbeats 3200000 in
set_option maxRecDepth 1000000 in
theorem law2 {W0 w : World} {a : Option Addr} {len cap bp bco B : Nat} {vals : List Nat} {cs : Array Value} {rs : List Res} {Q : Exit → Act → World → Prop} (S : Sep W0 w (Res.pm B [] :: Res.blk bco cs 60 :: Res.blk bp #[.slice a len cap] 24 :: rs)) (h9 : cs[9]? = some (.map (some B))) (hv : PrAt W0 a vals) (hl : vals.length = len) (c0 c1 c2 c3 c4 c5 c6 c7 c8 c9 c10 c12 c13 c14 c15 c16 c17 c18 c19 c20 c23 c24 c25 c26 c27 c28 c29 c30 c31 c32 c33 c34 c35 c36 c37 c38 c39 c40 c41 c42 c43 c44 c45 c46 c47 c48 c49 c50 c51 c52 c53 c54 c55 c56 c57 c58 c59 c60 c61 c62 c63 c64 c65 c66 c67 c68 c69 c70 c71 c72 c73 c74 c75 c76 c77 c78 c79 c80 c81 c82 c83 c84 c85 c86 c87 c88 c89 c90 c91 c92 c93 c94 c95 c96 c97 c98 c99 c100 c101 c102 c103 c104 c105 c106 c107 c108 c109 c110 c111 c112 c113 c114 c115 c116 c117 c118 c119 c120 c121 c122 c123 c124 c125 c126 c127 c128 c129 c130 c131 c132 c133 c134 c135 c136 c137 c138 c139 c140 c141 c142 c143 c144 c145 c146 c147 c148 c149 c150 c151 c152 c153 c154 c155 c156 c157 c158 c159 c160 c161 c162 c163 c164 c165 c166 c167 c168 c169 c170 c171 c172 c173 c174 c175 c176 c177 c178 c179 c180 c181 c182 c183 c184 c185 c186 c187 c188 c189 c190 c191 c192 c193 c194 c195 c196 c197 c198 c199 c200 c201 c202 c203 c204 c205 c206 c207 c208 c209 c210 c211 c212 c213 c214 c215 c216 c217 c218 c219 c220 c221 c222 c223 c224 c225 c226 c227 c228 c229 c230 c231 c232 c233 c234 c235 c236 c237 c238 c239 c240 c241 c242 c243 c244 c245 c246 c247 c248 c249 c250 c251 c252 c253 c254 c255 c256 c257 c258 c259 c260 c261 c262 c263 c264 c265 c266 c267 c268 c269 c270 c271 c272 c273 c274 c275 c276 c277 c278 c279 c280 c281 c282 c283 c284 c285 c286 c287 c288 c289 c290 c291 c292 c293 c294 c295 c296 c297 c298 c299 c300 c301 c302 c303 c304 c305 c306 c307 c308 c309 c310 c311 c312 c313 c314 c315 c316 c317 c318 c319 c320 c321 c322 c323 c324 c325 c326 c327 c328 c329 c330 c331 c332 c333 c334 c335 c336 c337 c338 c339 c340 c341 c342 c343 c344 c345 c346 c347 c348 c349 c350 : Value)
    (hend : ∀ (u22 u82 u83 u84 u85 u86 u87 u88 u89 u90 u91 u92 u93 u94 u95 u96 u97 u98 u99 u100 u101 u102 : Value) (wx : World), Sep W0 wx (Res.pm B (kvOf vals (min len 6)) :: Res.blk bco cs 60 :: Res.blk bp #[.slice a len cap] 24 :: rs) → Q (.exit 2) ⟨#[c0, c1, c2, c3, c4, c5, c6, c7, c8, c9, c10, .pointer (some ⟨bp, 0, none⟩), c12, c13, c14, c15, c16, c17, c18, c19, c20, .pointer (some ⟨bco, 0, none⟩), u22, c23, c24, c25, c26, c27, c28, c29, c30, c31, c32, c33, c34, c35, c36, c37, c38, c39, c40, c41, c42, c43, c44, c45, c46, c47, c48, c49, c50, c51, c52, c53, c54, c55, c56, c57, c58, c59, c60, c61, c62, c63, c64, c65, c66, c67, c68, c69, c70, c71, c72, c73, c74, c75, c76, c77, c78, c79, c80, c81, u82, u83, u84, u85, u86, u87, u88, u89, u90, u91, u92, u93, u94, u95, u96, u97, u98, u99, u100, u101, u102, c103, c104, c105, c106, c107, c108, c109, c110, c111, c112, c113, c114, c115, c116, c117, c118, c119, c120, c121, c122, c123, c124, c125, c126, c127, c128, c129, c130, c131, c132, c133, c134, c135, c136, c137, c138, c139, c140, c141, c142, c143, c144, c145, c146, c147, c148, c149, c150, c151, c152, c153, c154, c155, c156, c157, c158, c159, c160, c161, c162, c163, c164, c165, c166, c167, c168, c169, c170, c171, c172, c173, c174, c175, c176, c177, c178, c179, c180, c181, c182, c183, c184, c185, c186, c187, c188, c189, c190, c191, c192, c193, c194, c195, c196, c197, c198, c199, c200, c201, c202, c203, c204, c205, c206, c207, c208, c209, c210, c211, c212, c213, c214, c215, c216, c217, c218, c219, c220, c221, c222, c223, c224, c225, c226, c227, c228, c229, c230, c231, c232, c233, c234, c235, c236, c237, c238, c239, c240, c241, c242, c243, c244, c245, c246, c247, c248, c249, c250, c251, c252, c253, c254, c255, c256, c257, c258, c259, c260, c261, c262, c263, c264, c265, c266, c267, c268, c269, c270, c271, c272, c273, c274, c275, c276, c277, c278, c279, c280, c281, c282, c283, c284, c285, c286, c287, c288, c289, c290, c291, c292, c293, c294, c295, c296, c297, c298, c299, c300, c301, c302, c303, c304, c305, c306, c307, c308, c309, c310, c311, c312, c313, c314, c315, c316, c317, c318, c319, c320, c321, c322, c323, c324, c325, c326, c327, c328, c329, c330, c331, c332, c333, c334, c335, c336, c337, c338, c339, c340, c341, c342, c343, c344, c345, c346, c347, c348, c349, c350], []⟩ wx) :
    Code.wp Yba.prog (lawLoop 14) Q ⟨#[c0, c1, c2, c3, c4, c5, c6, c7, c8, c9, c10, .pointer (some ⟨bp, 0, none⟩), c12, c13, c14, c15, c16, c17, c18, c19, c20, .pointer (some ⟨bco, 0, none⟩), .int .i64 0, c23, c24, c25, c26, c27, c28, c29, c30, c31, c32, c33, c34, c35, c36, c37, c38, c39, c40, c41, c42, c43, c44, c45, c46, c47, c48, c49, c50, c51, c52, c53, c54, c55, c56, c57, c58, c59, c60, c61, c62, c63, c64, c65, c66, c67, c68, c69, c70, c71, c72, c73, c74, c75, c76, c77, c78, c79, c80, c81, c82, c83, c84, c85, c86, c87, c88, c89, c90, c91, c92, c93, c94, c95, c96, c97, c98, c99, c100, c101, c102, c103, c104, c105, c106, c107, c108, c109, c110, c111, c112, c113, c114, c115, c116, c117, c118, c119, c120, c121, c122, c123, c124, c125, c126, c127, c128, c129, c130, c131, c132, c133, c134, c135, c136, c137, c138, c139, c140, c141, c142, c143, c144, c145, c146, c147, c148, c149, c150, c151, c152, c153, c154, c155, c156, c157, c158, c159, c160, c161, c162, c163, c164, c165, c166, c167, c168, c169, c170, c171, c172, c173, c174, c175, c176, c177, c178, c179, c180, c181, c182, c183, c184, c185, c186, c187, c188, c189, c190, c191, c192, c193, c194, c195, c196, c197, c198, c199, c200, c201, c202, c203, c204, c205, c206, c207, c208, c209, c210, c211, c212, c213, c214, c215, c216, c217, c218, c219, c220, c221, c222, c223, c224, c225, c226, c227, c228, c229, c230, c231, c232, c233, c234, c235, c236, c237, c238, c239, c240, c241, c242, c243, c244, c245, c246, c247, c248, c249, c250, c251, c252, c253, c254, c255, c256, c257, c258, c259, c260, c261, c262, c263, c264, c265, c266, c267, c268, c269, c270, c271, c272, c273, c274, c275, c276, c277, c278, c279, c280, c281, c282, c283, c284, c285, c286, c287, c288, c289, c290, c291, c292, c293, c294, c295, c296, c297, c298, c299, c300, c301, c302, c303, c304, c305, c306, c307, c308, c309, c310, c311, c312, c313, c314, c315, c316, c317, c318, c319, c320, c321, c322, c323, c324, c325, c326, c327, c328, c329, c330, c331, c332, c333, c334, c335, c336, c337, c338, c339, c340, c341, c342, c343, c344, c345, c346, c347, c348, c349, c350], []⟩ w := by
  have HEND := Hid.mk' hend
  have HV := Hid.mk' hv
  clear hend hv
  conv => arg 2; whnf
  dsimp only
  go_loopw [22] (fun vi wx => ∃ i : Nat, i ≤ min len 6 ∧ vi = .int .i64 i ∧ Sep W0 wx (Res.pm B (kvOf vals i) :: Res.blk bco cs 60 :: Res.blk bp #[.slice a len cap] 24 :: rs)) (fun vi _ => 6 - (intOf vi).toNat)
  case atStart => exact ⟨0, by omega, rfl, S⟩
  case round =>
    clear S
    obtain ⟨i, hi, rfl, S⟩ := hrel
    have c0 : wr.cell? ⟨bp, 0, none⟩ = some (.slice a len cap) := cell_of_row wr bp 0 _ 24 (0, 0) S.tail.tail.head
    by_cases h1 : i < len
    · have y0 : decide ((i : Int) < (len : Int)) = true := by simp; omega
      have y1 : (i : Int) < (len : Int) := by omega
      have y2 : (0 : Int) ≤ (i : Int) := by omega
      by_cases h2 : i < 6
      · have y3 : decide ((i : Int) < 6) = true := by simp; omega
        obtain ⟨a0, ha, hc⟩ := HV.out i (by omega)
        subst ha
        obtain ⟨vi, hvi⟩ : ∃ vi, vals.getD i 0 = vi := ⟨_, rfl⟩
        rw [hvi] at hc
        have HVI := Hid.mk' hvi
        have hnew := kvOf_new vals h2
        obtain ⟨s, hs⟩ : ∃ s, nmB i = s := ⟨_, rfl⟩
        have hsz : s.size ≤ maxLen := by rw [← hs, nmB_size]; unfold maxLen; omega
        rw [hs] at hnew
        have HS := Hid.mk' hs
        have HNEW := Hid.mk' hnew
        have Sq := S.quiet ((Keeps.refl (fun _ => False) wr).drew)
        have q0 : wr.drew.cell? ⟨bco, 9, none⟩ = some (.map (some B)) := by rw [cell_of_row _ bco 9 _ 60 (0, 0) Sq.tail.head]; exact h9
        have q1 : wr.drew.cell? ⟨bp, 0, none⟩ = some (.slice (some a0) len cap) := cell_of_row _ bp 0 _ 24 (0, 0) Sq.tail.tail.head
        have q2 : wr.drew.cell? (a0.add i) = some (.int .u64 vi) := Sq.base.st hc
        have hwr : IntKind.u8.wrap (i : Int) = (i : Int) := by simp [IntKind.wrap, IntKind.bits, IntKind.signed]; omega
        have hn : ∀ W, Calls Yba.prog 4 #[.int .u8 (IntKind.u8.wrap (i : Int))] W fun r w' => r = .returned (.string s) ∧ Keeps (fun _ => False) W w' := fun W => by
          have := name_any W i (by omega)
          rw [Nat.mod_eq_of_lt h2, hs] at this
          rw [hwr]; exact this
        clear S hvi hs hnew hwr
        go_upto_region 16 with fail
        clear c0
        refine wp_region_noPanic ?_
        go_region_held3 (fun w' => w'.cell? ⟨bco, 9, none⟩ = some (.map (some B)) ∧ w'.cell? ⟨bp, 0, none⟩ = some (.slice (some a0) len cap) ∧ w'.cell? (a0.add i) = some (.int .u64 vi)) (first | exact ⟨t0, t1, t2⟩ | exact ⟨r0, r1, r2⟩ | exact ⟨q0, q1, q2⟩ | assumption) ((first
          | (go_at_call 4; refine (hn _).mono ?_; rintro r w2 ⟨rfl, k2⟩; have S2 := Sq.quiet k2; have r0 := k2.st q0; have r1 := k2.st q1; have r2 := k2.st q2; obtain ⟨w3, hrun, hpm, hk3⟩ := (show Pm w2 B (kvOf vals i) from S2.head).put HNEW.out hsz vi; have S3 := S2.upd1 (r' := Res.pm B (kvOf vals i ++ [(s, vi)])) hpm hk3 (fun b hb => .inl hb); have t0 : w3.cell? ⟨bco, 9, none⟩ = some (.map (some B)) := (by rw [cell_of_row _ bco 9 _ 60 (0, 0) S3.tail.head]; exact h9); have t1 : w3.cell? ⟨bp, 0, none⟩ = some (.slice (some a0) len cap) := cell_of_row _ bp 0 _ 24 (0, 0) S3.tail.tail.head; have t2 : w3.cell? (a0.add i) = some (.int .u64 vi) := S3.base.st hc)))
        all_goals
          refine NoPanic.normal ?_
          have HS3 := Hid.mk' S3
          clear S3 S2 Sq hrun hpm hk3 t0 t1 t2 r0 r1 r2 q0 q1 q2 k2 hn hc
          go_wp2
          go_roundw
          case rel =>
            refine ⟨i + 1, by omega, by go_num, ?_⟩
            rw [show kvOf vals (i + 1) = kvOf vals i ++ [(nmB i, vals.getD i 0)] from rfl, HS.out, HVI.out]
            exact HS3.out
          case measure => simp [intOf]; omega
      · have y3 : decide ((i : Int) < 6) = false := by simp; omega
        have e : min len 6 = i := by omega
        have HE := Hid.mk' e
        have HS := Hid.mk' S
        clear e S
        go_wp2
        exact HEND.out _ _ _ _ _ _ _ _ _ _ _ _ _ _ _ _ _ _ _ _ _ _ _ (by rw [HE.out]; exact HS.out)
    · have y0 : decide ((i : Int) < (len : Int)) = false := by simp; omega
      have e : min len 6 = i := by omega
      have HE := Hid.mk' e
      have HS := Hid.mk' S
      clear e S
      go_wp2
      exact HEND.out _ _ _ _ _ _ _ _ _ _ _ _ _ _ _ _ _ _ _ _ _ _ _ (by rw [HE.out]; exact HS.out)
end Go.Proofs.Ybulkcdkc
