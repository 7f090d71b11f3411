import Derived.Test.YbulkcdkcLw0
namespace Go.Proofs.Ybulkcdkc
open Go.RowKit

theorem kf_snoc (view : List ByteArray) (h : ByteArray → Bool) (l : List ByteArray) (x : ByteArray) : (kf view h (l ++ [x])).length = (kf view h l).length + (if h x && has view x then 1 else 0) := by
  unfold kf
  rw [List.filter_append, List.length_append]
  cases hh : h x <;> cases hv : has view x <;> simp [hh, hv]
/-- What the law's own holds reads. -/
structure Cl (w : World) (bi bp bl : Nat) (me : ByteArray) (a : Option Addr) (len cap last : Nat) (vals : List Nat) : Prop where
  id : w.cell? ⟨bi, 0, none⟩ = some (.string me)
  pr : w.cell? ⟨bp, 0, none⟩ = some (.slice a len cap)
  la : w.cell? ⟨bl, 0, none⟩ = some (.int .u64 last)
  at_ : PrAt w a vals
  len : vals.length = len
theorem Cl.keep {w w' : World} {bi bp bl : Nat} {me : ByteArray} {a : Option Addr} {len cap last : Nat} {vals : List Nat} (h : Cl w bi bp bl me a len cap last vals) (k : Keeps (fun _ => False) w w') : Cl w' bi bp bl me a len cap last vals := ⟨k.st h.id, k.st h.pr, k.st h.la, h.at_.keep k, h.len⟩

set_option maxHeartbeats 3200000 in
set_option maxRecDepth 1000000 in
theorem law8 {w : World} {bi bp bl g n c len cap last : Nat} {a : Option Addr} {me : ByteArray} {vals : List Nat} {vv : Value} {view ss : List ByteArray} {Q : Exit → Act → World → Prop} (hC : Cl w bi bp bl me a len cap last vals) (hV : Rd w vv view) (hvl : view.length ≤ 1000) (hR : Rd w (.slice (some ⟨g, 0, none⟩) n c) ss) (hl : ss.length = n) (hlen : n ≤ 1000) (c0 c1 c2 c3 c4 c5 c6 c7 c8 c9 c10 c11 c12 c13 c14 c15 c16 c17 c18 c19 c20 c21 c22 c23 c24 c25 c26 c28 c29 c30 c31 c32 c33 c34 c35 c36 c37 c38 c40 c41 c42 c44 c45 c46 c47 c48 c49 c50 c51 c52 c53 c54 c55 c56 c57 c58 c59 c60 c61 c62 c63 c64 c65 c66 c67 c68 c69 c70 c71 c72 c73 c74 c75 c76 c77 c78 c79 c80 c81 c82 c83 c84 c85 c86 c87 c88 c89 c90 c91 c92 c93 c94 c95 c96 c97 c98 c99 c100 c101 c102 c103 c104 c105 c106 c107 c108 c109 c110 c111 c112 c113 c114 c115 c116 c117 c118 c119 c120 c121 c122 c123 c124 c125 c126 c127 c128 c129 c130 c131 c132 c133 c134 c135 c136 c137 c138 c139 c140 c141 c142 c143 c144 c145 c146 c147 c148 c149 c150 c151 c152 c153 c154 c155 c156 c157 c158 c159 c160 c161 c162 c163 c164 c165 c166 c167 c168 c169 c170 c171 c172 c173 c174 c175 c176 c177 c178 c179 c180 c181 c182 c183 c184 c185 c186 c187 c188 c189 c190 c191 c192 c193 c194 c195 c196 c197 c198 c199 c200 c201 c202 c203 c204 c205 c206 c207 c208 c209 c210 c211 c212 c213 c214 c215 c216 c217 c218 c219 c220 c221 c222 c223 c224 c225 c226 c227 c228 c229 c230 c231 c232 c233 c234 c238 c239 c240 c241 c242 c243 c244 c245 c246 c247 c248 c249 c250 c251 c252 c253 c254 c255 c256 c257 c258 c259 c260 c261 c262 c263 c264 c265 c266 c267 c268 c269 c270 c271 c272 c273 c274 c275 c276 c277 c278 c279 c280 c281 c282 c283 c284 c285 c286 c287 c288 c289 c290 c291 c292 c293 c294 c295 c296 c297 c298 c299 c300 c301 c302 c303 c304 c305 c306 c307 c308 c309 c310 c311 c312 c313 c314 c315 c316 c317 c318 c319 c320 c321 c322 c323 c324 c325 c326 c327 c328 c329 c330 c331 c332 c333 c334 c335 c336 c337 c338 c339 c340 c341 c342 c343 c344 c345 c346 c347 c348 c349 c350 : Value)
    (hend : ∀ (u45 u237 u238 u239 u240 u241 u242 u243 u244 u245 u246 u247 u248 u249 u250 u251 : Value) (wx : World), Keeps (fun _ => False) w wx → Q (.exit 15) ⟨#[c0, c1, c2, c3, c4, c5, c6, c7, c8, c9, c10, c11, c12, c13, c14, c15, c16, c17, c18, c19, c20, c21, c22, c23, c24, c25, c26, vv, c28, c29, c30, c31, c32, c33, c34, c35, c36, c37, c38, .func (.func 8) #[] #[.pointer (some ⟨bi, 0, none⟩), .pointer (some ⟨bp, 0, none⟩), .pointer (some ⟨bl, 0, none⟩)], c40, c41, c42, .int .i64 ((kf view (hol me (kvOf vals (min len 6)) last) ss).length : Int), c44, u45, c46, c47, c48, c49, c50, c51, c52, c53, c54, c55, c56, c57, c58, c59, c60, c61, c62, c63, c64, c65, c66, c67, c68, c69, c70, c71, c72, c73, c74, c75, c76, c77, c78, c79, c80, c81, c82, c83, c84, c85, c86, c87, c88, c89, c90, c91, c92, c93, c94, c95, c96, c97, c98, c99, c100, c101, c102, c103, c104, c105, c106, c107, c108, c109, c110, c111, c112, c113, c114, c115, c116, c117, c118, c119, c120, c121, c122, c123, c124, c125, c126, c127, c128, c129, c130, c131, c132, c133, c134, c135, c136, c137, c138, c139, c140, c141, c142, c143, c144, c145, c146, c147, c148, c149, c150, c151, c152, c153, c154, c155, c156, c157, c158, c159, c160, c161, c162, c163, c164, c165, c166, c167, c168, c169, c170, c171, c172, c173, c174, c175, c176, c177, c178, c179, c180, c181, c182, c183, c184, c185, c186, c187, c188, c189, c190, c191, c192, c193, c194, c195, c196, c197, c198, c199, c200, c201, c202, c203, c204, c205, c206, c207, c208, c209, c210, c211, c212, c213, c214, c215, c216, c217, c218, c219, c220, c221, c222, c223, c224, c225, c226, c227, c228, c229, c230, c231, c232, c233, c234, .slice (some ⟨g, 0, none⟩) n c, .int .i64 (n : Int), u237, u238, u239, u240, u241, u242, u243, u244, u245, u246, u247, u248, u249, u250, u251, c252, c253, c254, c255, c256, c257, c258, c259, c260, c261, c262, c263, c264, c265, c266, c267, c268, c269, c270, c271, c272, c273, c274, c275, c276, c277, c278, c279, c280, c281, c282, c283, c284, c285, c286, c287, c288, c289, c290, c291, c292, c293, c294, c295, c296, c297, c298, c299, c300, c301, c302, c303, c304, c305, c306, c307, c308, c309, c310, c311, c312, c313, c314, c315, c316, c317, c318, c319, c320, c321, c322, c323, c324, c325, c326, c327, c328, c329, c330, c331, c332, c333, c334, c335, c336, c337, c338, c339, c340, c341, c342, c343, c344, c345, c346, c347, c348, c349, c350], []⟩ wx) :
    Code.wp Yba.prog (lawLoop 67) Q ⟨#[c0, c1, c2, c3, c4, c5, c6, c7, c8, c9, c10, c11, c12, c13, c14, c15, c16, c17, c18, c19, c20, c21, c22, c23, c24, c25, c26, vv, c28, c29, c30, c31, c32, c33, c34, c35, c36, c37, c38, .func (.func 8) #[] #[.pointer (some ⟨bi, 0, none⟩), .pointer (some ⟨bp, 0, none⟩), .pointer (some ⟨bl, 0, none⟩)], c40, c41, c42, .int .i64 0, c44, c45, c46, c47, c48, c49, c50, c51, c52, c53, c54, c55, c56, c57, c58, c59, c60, c61, c62, c63, c64, c65, c66, c67, c68, c69, c70, c71, c72, c73, c74, c75, c76, c77, c78, c79, c80, c81, c82, c83, c84, c85, c86, c87, c88, c89, c90, c91, c92, c93, c94, c95, c96, c97, c98, c99, c100, c101, c102, c103, c104, c105, c106, c107, c108, c109, c110, c111, c112, c113, c114, c115, c116, c117, c118, c119, c120, c121, c122, c123, c124, c125, c126, c127, c128, c129, c130, c131, c132, c133, c134, c135, c136, c137, c138, c139, c140, c141, c142, c143, c144, c145, c146, c147, c148, c149, c150, c151, c152, c153, c154, c155, c156, c157, c158, c159, c160, c161, c162, c163, c164, c165, c166, c167, c168, c169, c170, c171, c172, c173, c174, c175, c176, c177, c178, c179, c180, c181, c182, c183, c184, c185, c186, c187, c188, c189, c190, c191, c192, c193, c194, c195, c196, c197, c198, c199, c200, c201, c202, c203, c204, c205, c206, c207, c208, c209, c210, c211, c212, c213, c214, c215, c216, c217, c218, c219, c220, c221, c222, c223, c224, c225, c226, c227, c228, c229, c230, c231, c232, c233, c234, .slice (some ⟨g, 0, none⟩) n c, .int .i64 (n : Int), .int .i64 0, c238, c239, c240, c241, c242, c243, c244, c245, c246, c247, c248, c249, c250, c251, c252, c253, c254, c255, c256, c257, c258, c259, c260, c261, c262, c263, c264, c265, c266, c267, c268, c269, c270, c271, c272, c273, c274, c275, c276, c277, c278, c279, c280, c281, c282, c283, c284, c285, c286, c287, c288, c289, c290, c291, c292, c293, c294, c295, c296, c297, c298, c299, c300, c301, c302, c303, c304, c305, c306, c307, c308, c309, c310, c311, c312, c313, c314, c315, c316, c317, c318, c319, c320, c321, c322, c323, c324, c325, c326, c327, c328, c329, c330, c331, c332, c333, c334, c335, c336, c337, c338, c339, c340, c341, c342, c343, c344, c345, c346, c347, c348, c349, c350], []⟩ w := by
  have HEND := Hid.mk' hend
  have HC := Hid.mk' hC
  have HV := Hid.mk' hV
  have HR := Hid.mk' hR
  have HL := Hid.mk' hl
  clear hend hC hV hR hl
  conv => arg 2; whnf
  dsimp only
  go_loopw [43, 45, 237] (fun vk _ vi wx => ∃ i : Nat, i ≤ n ∧ vi = .int .i64 i ∧ vk = .int .i64 ((kf view (hol me (kvOf vals (min len 6)) last) (ss.take i)).length : Int) ∧ Keeps (fun _ => False) w wx) (fun _ _ vi _ => n - (intOf vi).toNat)
  case atStart => exact ⟨0, by omega, rfl, rfl, Keeps.refl _ _⟩
  case round =>
    obtain ⟨i, hi, rfl, hk43, hk⟩ := hrel
    subst hk43
    by_cases hlt : i < n
    · have y0 : (i : Int) < (n : Int) := by omega
      have y1 : (0 : Int) ≤ (i : Int) := by omega
      have hRn : wr.ownsRow 0 9 1 (.slice (some ⟨g, 0, none⟩) n c) n (strs ss) := by have := HR.out.keep hk; unfold Rd at this; rwa [HL.out] at this
      obtain ⟨s, hs⟩ : ∃ s, ss.getD i ⟨#[]⟩ = s := ⟨_, rfl⟩
      have d0 : wr.cell? ⟨g, i, none⟩ = some (.string s) := own_cell hRn (by rw [← hs]; exact strs_get ss i (by have := HL.out; omega))
      have htk : ss.take (i + 1) = ss.take i ++ [s] := by
        rw [List.take_add_one, List.getElem?_eq_getElem (by have := HL.out; omega)]
        have : ss[i]'(by have := HL.out; omega) = s := by rw [← hs]; simp [show i < ss.length by have := HL.out; omega]
        rw [this]; rfl
      have hkf := kf_snoc view (hol me (kvOf vals (min len 6)) last) (ss.take i) s
      rw [← htk] at hkf
      have hln : (kf view (hol me (kvOf vals (min len 6)) last) (ss.take i)).length ≤ n := Nat.le_trans (List.length_filter_le _ _) (by simp; have := HL.out; omega)
      obtain ⟨q, hq⟩ : ∃ q, (kf view (hol me (kvOf vals (min len 6)) last) (ss.take i)).length = q := ⟨_, rfl⟩
      rw [hq] at hkf hln ⊢
      have hCr := HC.out.keep hk
      have hcl := cl8_any hCr.id hCr.pr hCr.la hCr.at_ hCr.len s
      obtain ⟨t, ht⟩ : ∃ t, (hol me (kvOf vals (min len 6)) last) s = t := ⟨_, rfl⟩
      rw [ht] at hcl hkf
      have HKF := Hid.mk' hkf
      clear hRn hs htk hq hCr ht hkf
      go_wp2_with fail
      refine hcl.mono ?_
      rintro r w1 ⟨rfl, k1⟩
      have hk1 := hk.trans k1 (fun _ _ h => h)
      clear hcl d0
      cases t with
      | false =>
        go_wp2
        go_roundw
        case rel => exact ⟨i + 1, by omega, by go_num, by rw [HKF.out]; simp, hk1⟩
        case measure => simp [intOf]; omega
      | true =>
        have hct := contains_any (HV.out.keep hk1) s (by omega)
        obtain ⟨t2, ht2⟩ : ∃ t2, has view s = t2 := ⟨_, rfl⟩
        rw [ht2] at hct
        have HT2 := Hid.mk' ht2
        clear ht2
        go_wp2_with fail
        refine hct.mono ?_
        rintro r w2 ⟨rfl, k2⟩
        have hk2 := hk1.trans k2 (fun _ _ h => h)
        clear hct
        cases t2 with
        | false =>
          go_wp2
          go_roundw
          case rel => exact ⟨i + 1, by omega, by go_num, by rw [HKF.out, HT2.out]; simp, hk2⟩
          case measure => simp [intOf]; omega
        | true =>
          go_wp2
          go_roundw
          case rel => exact ⟨i + 1, by omega, by go_num, by rw [HKF.out, HT2.out]; go_num, hk2⟩
          case measure => simp [intOf]; omega
    · obtain rfl : i = n := by omega
      rw [List.take_of_length_le (by have := HL.out; omega)]
      go_wp2
      exact HEND.out _ _ _ _ _ _ _ _ _ _ _ _ _ _ _ _ _ hk
end Go.Proofs.Ybulkcdkc
