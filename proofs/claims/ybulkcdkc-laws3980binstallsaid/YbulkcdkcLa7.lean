import Derived.Test.YbulkcdkcLa8
namespace Go.Proofs.Ybulkcdkc
open Go.RowKit

theorem has_kf {view : List ByteArray} {h : ByteArray → Bool} {ms : List ByteArray} {x : ByteArray} (hx : x ∈ ms) : has (kf view h ms) x = (h x && has view x) := by
  cases hb : (h x && has view x) with
  | true =>
    refine has_iff.2 (List.mem_filter.2 ⟨hx, ?_⟩)
    simp only [Bool.and_eq_true] at hb
    simp [hb.1, hb.2]
  | false =>
    refine Bool.eq_false_iff.2 (fun hc => ?_)
    have := (List.mem_filter.1 (has_iff.1 hc)).2
    cases h x <;> cases has view x <;> simp_all
theorem ne_of {L : List (List ByteArray)} {n i : Nat} {f : List ByteArray → Bool} (hall : ∀ j, j < i → f (L.getD j []) = true ∧ 0 < (L.getD j []).length) (hq : f (L.getD i []) = false) (h0 : 0 < (L.getD i []).length) : ∀ i', i' < n → (∀ j, j < i' → f (L.getD j []) = true) → 0 < (L.getD i' []).length := fun i' _ hj => by
  rcases Nat.lt_trichotomy i' i with h | h | h
  · exact (hall i' h).2
  · subst h; exact h0
  · have := hj i h; rw [hq] at this; cases this
theorem kall_no {view : List ByteArray} {h : ByteArray → Bool} {L : List (List ByteArray)} {i : Nat} (hi : i < L.length) (hq : quo (L.getD i []) (kf view h (L.getD i [])) = false) : kall view h L = false := by
  unfold kall
  rw [List.all_eq_false]
  refine ⟨L.getD i [], by simp [hi], ?_⟩
  rw [hq]; simp
set_option maxHeartbeats 3200000 in
set_option maxRecDepth 1000000 in
theorem law7 {w : World} {bi bp bl n lc len cap last : Nat} {a la : Option Addr} {me : ByteArray} {vals : List Nat} {vv : Value} {vs : List Value} {view : List ByteArray} {L : List (List ByteArray)} {t0 : Bool} {Q : Exit → Act → World → Prop} (hC : Cl w bi bp bl me a len cap last vals) (hV : Rd w vv view) (hvl : view.length ≤ 1000) (hR : w.ownsRow 0 27 1 (.slice la n lc) n vs) (hL : ∀ i, i < n → Rd w (vs.getD i undef) (L.getD i [])) (hl : L.length = n) (hlen : n ≤ 1000) (hb : ∀ l ∈ L, l.length ≤ 1000) (c0 c1 c2 c3 c4 c5 c6 c7 c8 c9 c10 c11 c12 c13 c14 c15 c16 c17 c18 c19 c20 c21 c22 c23 c24 c25 c26 c28 c29 c30 c31 c32 c33 c34 c35 c36 c37 c38 c41 c42 c43 c44 c45 c46 c47 c48 c49 c50 c51 c52 c53 c54 c55 c56 c57 c58 c59 c60 c61 c62 c63 c64 c65 c66 c67 c68 c69 c70 c71 c72 c73 c74 c75 c76 c77 c78 c79 c80 c81 c82 c83 c84 c85 c86 c87 c88 c89 c90 c91 c92 c93 c94 c95 c96 c97 c98 c99 c100 c101 c102 c103 c104 c105 c106 c107 c108 c109 c110 c111 c112 c113 c114 c115 c116 c117 c118 c119 c120 c121 c122 c123 c124 c125 c126 c127 c128 c129 c130 c131 c132 c133 c134 c135 c136 c137 c138 c139 c140 c141 c142 c143 c144 c145 c146 c147 c148 c149 c150 c151 c152 c153 c154 c155 c156 c157 c158 c159 c160 c161 c162 c163 c164 c165 c166 c167 c168 c169 c170 c171 c172 c173 c174 c175 c176 c177 c178 c179 c180 c181 c182 c183 c184 c185 c186 c187 c188 c189 c190 c191 c192 c193 c194 c195 c196 c197 c198 c199 c200 c201 c202 c203 c204 c205 c206 c207 c208 c209 c210 c211 c212 c213 c214 c215 c216 c217 c218 c219 c220 c221 c222 c223 c224 c225 c229 c230 c231 c232 c233 c234 c235 c236 c237 c238 c239 c240 c241 c242 c243 c244 c245 c246 c247 c248 c249 c250 c251 c252 c253 c254 c255 c256 c257 c258 c259 c260 c261 c262 c263 c264 c265 c266 c267 c268 c269 c270 c271 c272 c273 c274 c275 c276 c277 c278 c279 c280 c281 c282 c283 c284 c285 c286 c287 c288 c289 c290 c291 c292 c293 c294 c295 c296 c297 c298 c299 c300 c301 c302 c303 c304 c305 c306 c307 c308 c309 c310 c311 c312 c313 c314 c315 c316 c317 c318 c319 c320 c321 c322 c323 c324 c325 c326 c327 c328 c329 c330 c331 c332 c333 c334 c335 c336 c337 c338 c339 c340 c341 c342 c343 c344 c345 c346 c347 c348 c349 c350 : Value)
    (hret : ∀ (u42 u43 u45 u46 u228 u229 u230 u231 u232 u233 u234 u235 u236 u237 u238 u239 u240 u241 u242 u243 u244 u245 u246 u247 u248 u249 u250 u251 u252 u253 u254 u255 u256 u257 u258 u259 u260 u261 u262 u263 u264 u265 u266 u267 u268 u269 u270 u271 u272 u273 u274 u275 u276 u277 u278 u279 u280 u40 : Value) (wx : World), Keeps (fun _ => False) w wx → Q .ret ⟨#[c0, c1, c2, c3, c4, c5, c6, c7, c8, c9, c10, c11, c12, c13, .bool true, c15, c16, c17, c18, c19, c20, c21, c22, c23, c24, c25, c26, vv, c28, c29, c30, c31, c32, c33, c34, c35, c36, c37, c38, .func (.func 8) #[] #[.pointer (some ⟨bi, 0, none⟩), .pointer (some ⟨bp, 0, none⟩), .pointer (some ⟨bl, 0, none⟩)], u40, c41, u42, u43, c44, u45, u46, c47, c48, c49, c50, c51, c52, c53, c54, c55, c56, c57, c58, c59, c60, c61, c62, c63, c64, c65, c66, c67, c68, c69, c70, c71, c72, c73, c74, c75, c76, c77, c78, c79, c80, c81, c82, c83, c84, c85, c86, c87, c88, c89, c90, c91, c92, c93, c94, c95, c96, c97, c98, c99, c100, c101, c102, c103, c104, c105, c106, c107, c108, c109, c110, c111, c112, c113, c114, c115, c116, c117, c118, c119, c120, c121, c122, c123, c124, c125, c126, c127, c128, c129, c130, c131, c132, c133, c134, c135, c136, c137, c138, c139, c140, c141, c142, c143, c144, c145, c146, c147, c148, c149, c150, c151, c152, c153, c154, c155, c156, c157, c158, c159, c160, c161, c162, c163, c164, c165, c166, c167, c168, c169, c170, c171, c172, c173, c174, c175, c176, c177, c178, c179, c180, c181, c182, c183, c184, c185, c186, c187, c188, c189, c190, c191, c192, c193, c194, c195, c196, c197, c198, c199, c200, c201, c202, c203, c204, c205, c206, c207, c208, c209, c210, c211, c212, c213, c214, c215, c216, c217, c218, c219, c220, c221, c222, c223, c224, c225, .slice la n lc, .int .i64 (n : Int), u228, u229, u230, u231, u232, u233, u234, u235, u236, u237, u238, u239, u240, u241, u242, u243, u244, u245, u246, u247, u248, u249, u250, u251, u252, u253, u254, u255, u256, u257, u258, u259, u260, u261, u262, u263, u264, u265, u266, u267, u268, u269, u270, u271, u272, u273, u274, u275, u276, u277, u278, u279, u280, c281, c282, c283, c284, c285, c286, c287, c288, c289, c290, c291, c292, c293, c294, c295, c296, c297, c298, c299, c300, c301, c302, c303, c304, c305, c306, c307, c308, c309, c310, c311, c312, c313, c314, c315, c316, c317, c318, c319, c320, c321, c322, c323, c324, c325, c326, c327, c328, c329, c330, c331, c332, c333, c334, c335, c336, c337, c338, c339, c340, c341, c342, c343, c344, c345, c346, c347, c348, c349, c350], []⟩ wx)
    (hend : ∀ (u14 u42 u43 u45 u46 u228 u229 u230 u231 u232 u233 u234 u235 u236 u237 u238 u239 u240 u241 u242 u243 u244 u245 u246 u247 u248 u249 u250 u251 u252 u253 u254 u255 u256 u257 u258 u259 u260 u261 u262 u263 u264 u265 u266 u267 u268 u269 u270 u271 u272 u273 u274 u275 u276 u277 u278 u279 u280 : Value) (b40 : Bool) (wx : World), Keeps (fun _ => False) w wx → (∀ i, i < n → (∀ j, j < i → quo (L.getD j []) (kf view (hol me (kvOf vals (min len 6)) last) (L.getD j [])) = true) → 0 < (L.getD i []).length) → b40 = (t0 && kall view (hol me (kvOf vals (min len 6)) last) L) → Q (.exit 13) ⟨#[c0, c1, c2, c3, c4, c5, c6, c7, c8, c9, c10, c11, c12, c13, u14, c15, c16, c17, c18, c19, c20, c21, c22, c23, c24, c25, c26, vv, c28, c29, c30, c31, c32, c33, c34, c35, c36, c37, c38, .func (.func 8) #[] #[.pointer (some ⟨bi, 0, none⟩), .pointer (some ⟨bp, 0, none⟩), .pointer (some ⟨bl, 0, none⟩)], .bool b40, c41, u42, u43, c44, u45, u46, c47, c48, c49, c50, c51, c52, c53, c54, c55, c56, c57, c58, c59, c60, c61, c62, c63, c64, c65, c66, c67, c68, c69, c70, c71, c72, c73, c74, c75, c76, c77, c78, c79, c80, c81, c82, c83, c84, c85, c86, c87, c88, c89, c90, c91, c92, c93, c94, c95, c96, c97, c98, c99, c100, c101, c102, c103, c104, c105, c106, c107, c108, c109, c110, c111, c112, c113, c114, c115, c116, c117, c118, c119, c120, c121, c122, c123, c124, c125, c126, c127, c128, c129, c130, c131, c132, c133, c134, c135, c136, c137, c138, c139, c140, c141, c142, c143, c144, c145, c146, c147, c148, c149, c150, c151, c152, c153, c154, c155, c156, c157, c158, c159, c160, c161, c162, c163, c164, c165, c166, c167, c168, c169, c170, c171, c172, c173, c174, c175, c176, c177, c178, c179, c180, c181, c182, c183, c184, c185, c186, c187, c188, c189, c190, c191, c192, c193, c194, c195, c196, c197, c198, c199, c200, c201, c202, c203, c204, c205, c206, c207, c208, c209, c210, c211, c212, c213, c214, c215, c216, c217, c218, c219, c220, c221, c222, c223, c224, c225, .slice la n lc, .int .i64 (n : Int), u228, u229, u230, u231, u232, u233, u234, u235, u236, u237, u238, u239, u240, u241, u242, u243, u244, u245, u246, u247, u248, u249, u250, u251, u252, u253, u254, u255, u256, u257, u258, u259, u260, u261, u262, u263, u264, u265, u266, u267, u268, u269, u270, u271, u272, u273, u274, u275, u276, u277, u278, u279, u280, c281, c282, c283, c284, c285, c286, c287, c288, c289, c290, c291, c292, c293, c294, c295, c296, c297, c298, c299, c300, c301, c302, c303, c304, c305, c306, c307, c308, c309, c310, c311, c312, c313, c314, c315, c316, c317, c318, c319, c320, c321, c322, c323, c324, c325, c326, c327, c328, c329, c330, c331, c332, c333, c334, c335, c336, c337, c338, c339, c340, c341, c342, c343, c344, c345, c346, c347, c348, c349, c350], []⟩ wx) :
    Code.wp Yba.prog (lawLoop 61) Q ⟨#[c0, c1, c2, c3, c4, c5, c6, c7, c8, c9, c10, c11, c12, c13, c14, c15, c16, c17, c18, c19, c20, c21, c22, c23, c24, c25, c26, vv, c28, c29, c30, c31, c32, c33, c34, c35, c36, c37, c38, .func (.func 8) #[] #[.pointer (some ⟨bi, 0, none⟩), .pointer (some ⟨bp, 0, none⟩), .pointer (some ⟨bl, 0, none⟩)], .bool t0, c41, c42, c43, c44, c45, c46, c47, c48, c49, c50, c51, c52, c53, c54, c55, c56, c57, c58, c59, c60, c61, c62, c63, c64, c65, c66, c67, c68, c69, c70, c71, c72, c73, c74, c75, c76, c77, c78, c79, c80, c81, c82, c83, c84, c85, c86, c87, c88, c89, c90, c91, c92, c93, c94, c95, c96, c97, c98, c99, c100, c101, c102, c103, c104, c105, c106, c107, c108, c109, c110, c111, c112, c113, c114, c115, c116, c117, c118, c119, c120, c121, c122, c123, c124, c125, c126, c127, c128, c129, c130, c131, c132, c133, c134, c135, c136, c137, c138, c139, c140, c141, c142, c143, c144, c145, c146, c147, c148, c149, c150, c151, c152, c153, c154, c155, c156, c157, c158, c159, c160, c161, c162, c163, c164, c165, c166, c167, c168, c169, c170, c171, c172, c173, c174, c175, c176, c177, c178, c179, c180, c181, c182, c183, c184, c185, c186, c187, c188, c189, c190, c191, c192, c193, c194, c195, c196, c197, c198, c199, c200, c201, c202, c203, c204, c205, c206, c207, c208, c209, c210, c211, c212, c213, c214, c215, c216, c217, c218, c219, c220, c221, c222, c223, c224, c225, .slice la n lc, .int .i64 (n : Int), .int .i64 0, c229, c230, c231, c232, c233, c234, c235, c236, c237, c238, c239, c240, c241, c242, c243, c244, c245, c246, c247, c248, c249, c250, c251, c252, c253, c254, c255, c256, c257, c258, c259, c260, c261, c262, c263, c264, c265, c266, c267, c268, c269, c270, c271, c272, c273, c274, c275, c276, c277, c278, c279, c280, c281, c282, c283, c284, c285, c286, c287, c288, c289, c290, c291, c292, c293, c294, c295, c296, c297, c298, c299, c300, c301, c302, c303, c304, c305, c306, c307, c308, c309, c310, c311, c312, c313, c314, c315, c316, c317, c318, c319, c320, c321, c322, c323, c324, c325, c326, c327, c328, c329, c330, c331, c332, c333, c334, c335, c336, c337, c338, c339, c340, c341, c342, c343, c344, c345, c346, c347, c348, c349, c350], []⟩ w := by
  have HEND := Hid.mk' hend
  have HRET := Hid.mk' hret
  have HC := Hid.mk' hC
  have HV := Hid.mk' hV
  have HR := Hid.mk' hR
  have HL := Hid.mk' hL
  have HLL := Hid.mk' hl
  have HB := Hid.mk' hb
  clear hend hret hC hV hR hL hl hb
  conv => arg 2; whnf
  dsimp only
  go_loopw [14, 40, 42, 43, 45, 46, 228] (fun _ v40 _ _ _ _ vi wx => ∃ i : Nat, i ≤ n ∧ vi = .int .i64 i ∧ v40 = .bool t0 ∧ Keeps (fun _ => False) w wx ∧ (∀ j, j < i → quo (L.getD j []) (kf view (hol me (kvOf vals (min len 6)) last) (L.getD j [])) = true ∧ 0 < (L.getD j []).length)) (fun _ _ _ _ _ _ vi _ => n - (intOf vi).toNat)
  case atStart => exact ⟨0, by omega, rfl, rfl, Keeps.refl _ _, fun j hj => by omega⟩
  case round =>
    obtain ⟨i, hi, rfl, hu40, hk, hall⟩ := hrel
    subst hu40
    have HALL := Hid.mk' hall
    clear hall
    by_cases hlt : i < n
    · have y0 : (i : Int) < (n : Int) := by omega
      have y1 : (0 : Int) ≤ (i : Int) := by omega
      obtain ⟨g, cap', hg, -, -, hcell⟩ := own_atB (hk.own HR.out (fun _ _ h => h)) (by omega)
      injection hg with e1 _ e3
      subst e1
      subst e3
      have hRi := (HL.out i hlt).keep hk
      obtain ⟨si, hsi⟩ : ∃ si, L.getD i [] = si := ⟨_, rfl⟩
      rw [hsi] at hRi
      have hvl' : vs.length = n := by have := HR.out.1; omega
      obtain ⟨vi, hvi⟩ : ∃ vi, vs.getD i undef = vi := ⟨_, rfl⟩
      rw [hvi] at hRi
      have c0 : wr.cell? ⟨g, i, none⟩ = some vi := by rw [(hcell i hlt).1, ← hvi]; simp [show i < vs.length by omega]
      obtain ⟨xa, xc, hx⟩ := own_sliceB hRi
      obtain ⟨sn, hsn⟩ : ∃ sn, si.length = sn := ⟨_, rfl⟩
      rw [hsn] at hx
      subst hx
      have hsb : sn ≤ 1000 := by rw [← hsn]; exact HB.out si (by rw [← hsi]; simp [show i < L.length by have := HLL.out; omega])
      have HSI := Hid.mk' hsi
      have HSN := Hid.mk' hsn
      have HRI := Hid.mk' hRi
      clear hcell hRi hsi hsn hvi hvl'
      by_cases hs0 : sn = 0
      · subst hs0
        go_wp2
        exact HRET.out _ _ _ _ _ _ _ _ _ _ _ _ _ _ _ _ _ _ _ _ _ _ _ _ _ _ _ _ _ _ _ _ _ _ _ _ _ _ _ _ _ _ _ _ _ _ _ _ _ _ _ _ _ _ _ _ _ _ _ hk
      · have hs0' : ((sn : Int) == 0) = false := by simp; omega
        have hRn : wr.ownsRow 0 9 1 (.slice xa sn xc) sn (strs si) := by have := HRI.out; unfold Rd at this; rwa [HSN.out] at this
        obtain ⟨gx, cx, hgx, -, -, -⟩ := own_atB hRn (by omega)
        injection hgx with f1 _ f3
        subst f1
        subst f3
        have HRN := Hid.mk' hRn
        clear hRn
        go_wp2
        refine law8 (HC.out.keep hk) (HV.out.keep hk) hvl HRI.out HSN.out hsb _ _ _ _ _ _ _ _ _ _ _ _ _ _ _ _ _ _ _ _ _ _ _ _ _ _ _ _ _ _ _ _ _ _ _ _ _ _ _ _ _ _ _ _ _ _ _ _ _ _ _ _ _ _ _ _ _ _ _ _ _ _ _ _ _ _ _ _ _ _ _ _ _ _ _ _ _ _ _ _ _ _ _ _ _ _ _ _ _ _ _ _ _ _ _ _ _ _ _ _ _ _ _ _ _ _ _ _ _ _ _ _ _ _ _ _ _ _ _ _ _ _ _ _ _ _ _ _ _ _ _ _ _ _ _ _ _ _ _ _ _ _ _ _ _ _ _ _ _ _ _ _ _ _ _ _ _ _ _ _ _ _ _ _ _ _ _ _ _ _ _ _ _ _ _ _ _ _ _ _ _ _ _ _ _ _ _ _ _ _ _ _ _ _ _ _ _ _ _ _ _ _ _ _ _ _ _ _ _ _ _ _ _ _ _ _ _ _ _ _ _ _ _ _ _ _ _ _ _ _ _ _ _ _ _ _ _ _ _ _ _ _ _ _ _ _ _ _ _ _ _ _ _ _ _ _ _ _ _ _ _ _ _ _ _ _ _ _ _ _ _ _ _ _ _ _ _ _ _ _ _ _ _ _ _ _ _ _ _ _ _ _ _ _ _ _ _ _ _ _ _ _ _ _ _ _ _ _ _ _ _ _ _ _ _ _ _ _ _ _ _ _ _ _ _ _ _ _ _ _ _ _ _ _ _ _ _ _ _ _ _ _ _ _ _ ?_
        intro u45 u237 u238 u239 u240 u241 u242 u243 u244 u245 u246 u247 u248 u249 u250 u251 w8 k8
        have hk8 := hk.trans k8 (fun _ _ h => h)
        obtain ⟨s0, hs0e⟩ : ∃ s0, si.getD 0 ⟨#[]⟩ = s0 := ⟨_, rfl⟩
        have d0 : w8.cell? ⟨gx, 0, none⟩ = some (.string s0) := own_cell (k8.own HRN.out (fun _ _ h => h)) (by rw [← hs0e]; exact strs_get si 0 (by have := HSN.out; omega))
        have hsm : s0 ∈ si := by rw [← hs0e]; simp [show 0 < si.length by have := HSN.out; omega]
        have hhk := has_kf (view := view) (h := (hol me (kvOf vals (min len 6)) last)) hsm
        have hq0 : quo si (kf view (hol me (kvOf vals (min len 6)) last) si) = (decide (si.length < 2 * (kf view (hol me (kvOf vals (min len 6)) last) si).length) || (decide (2 * (kf view (hol me (kvOf vals (min len 6)) last) si).length = si.length) && has (kf view (hol me (kvOf vals (min len 6)) last) si) (si.getD 0 ⟨#[]⟩))) := rfl
        have hqb : (kf view (hol me (kvOf vals (min len 6)) last) si).length ≤ si.length := List.length_filter_le _ _
        rw [hs0e, hhk, HSN.out] at hq0
        rw [HSN.out] at hqb
        obtain ⟨q, hq⟩ : ∃ q, (kf view (hol me (kvOf vals (min len 6)) last) si).length = q := ⟨_, rfl⟩
        rw [hq] at hq0 hqb ⊢
        have hC8 := HC.out.keep hk8
        have hcl := cl8_any hC8.id hC8.pr hC8.la hC8.at_ hC8.len s0
        obtain ⟨t, ht⟩ : ∃ t, (hol me (kvOf vals (min len 6)) last) s0 = t := ⟨_, rfl⟩
        rw [ht] at hcl hq0
        have y2 : (0 : Int) < (sn : Int) := by omega
        have HQ := Hid.mk' hq0
        clear hs0e hsm hhk hq hC8 ht hq0 c0
        go_wp2_with fail
        refine hcl.mono ?_
        rintro r w9 ⟨rfl, k9⟩
        have hk9 := hk8.trans k9 (fun _ _ h => h)
        have d1 := k9.st d0
        clear hcl d0
        cases t with
        | false =>
          by_cases a1 : sn < 2 * q
          · have a1' : decide ((sn : Int) < 2 * (q : Int)) = true := by simp; omega
            go_wp2
            go_roundw
            case rel =>
              refine ⟨i + 1, by omega, by go_num, rfl, hk9, fun j hj => ?_⟩
              by_cases hji : j = i
              · subst hji; rw [HSI.out]; exact ⟨by rw [HQ.out]; simp [*], by have := HSN.out; omega⟩
              · exact HALL.out j (by omega)
            case measure => simp [intOf]; omega
          · have a1' : decide ((sn : Int) < 2 * (q : Int)) = false := by simp; omega
            by_cases a2 : 2 * q = sn
            · have a2' : (2 * (q : Int) == (sn : Int)) = true := by simp; omega
              have hqf : quo si (kf view (hol me (kvOf vals (min len 6)) last) si) = false := by rw [HQ.out]; simp [*]
              have HQF := Hid.mk' hqf
              clear hqf
              go_wp2
              exact HEND.out _ _ _ _ _ _ _ _ _ _ _ _ _ _ _ _ _ _ _ _ _ _ _ _ _ _ _ _ _ _ _ _ _ _ _ _ _ _ _ _ _ _ _ _ _ _ _ _ _ _ _ _ _ _ _ _ _ _ false _ hk9 (ne_of (f := fun l => quo l (kf view (hol me (kvOf vals (min len 6)) last) l)) HALL.out (by rw [HSI.out]; exact HQF.out) (by rw [HSI.out]; have := HSN.out; omega)) (by rw [kall_no (i := i) (by have := HLL.out; omega) (by rw [HSI.out]; exact HQF.out)]; simp)
            · have a2' : (2 * (q : Int) == (sn : Int)) = false := by simp; omega
              have hqf : quo si (kf view (hol me (kvOf vals (min len 6)) last) si) = false := by rw [HQ.out]; simp [*]
              have HQF := Hid.mk' hqf
              clear hqf
              go_wp2
              exact HEND.out _ _ _ _ _ _ _ _ _ _ _ _ _ _ _ _ _ _ _ _ _ _ _ _ _ _ _ _ _ _ _ _ _ _ _ _ _ _ _ _ _ _ _ _ _ _ _ _ _ _ _ _ _ _ _ _ _ _ false _ hk9 (ne_of (f := fun l => quo l (kf view (hol me (kvOf vals (min len 6)) last) l)) HALL.out (by rw [HSI.out]; exact HQF.out) (by rw [HSI.out]; have := HSN.out; omega)) (by rw [kall_no (i := i) (by have := HLL.out; omega) (by rw [HSI.out]; exact HQF.out)]; simp)
        | true =>
          have hct := contains_any (HV.out.keep hk9) s0 (by omega)
          obtain ⟨t2, ht2⟩ : ∃ t2, has view s0 = t2 := ⟨_, rfl⟩
          have hq1 := HQ.out
          rw [ht2] at hct hq1
          clear HQ
          have HQ := Hid.mk' hq1
          clear ht2 hq1
          go_wp2_with fail
          refine hct.mono ?_
          rintro r w10 ⟨rfl, k10⟩
          have hk10 := hk9.trans k10 (fun _ _ h => h)
          clear hct d1
          cases t2 with
          | false =>
            by_cases a1 : sn < 2 * q
            · have a1' : decide ((sn : Int) < 2 * (q : Int)) = true := by simp; omega
              go_wp2
              go_roundw
              case rel =>
                refine ⟨i + 1, by omega, by go_num, rfl, hk10, fun j hj => ?_⟩
                by_cases hji : j = i
                · subst hji; rw [HSI.out]; exact ⟨by rw [HQ.out]; simp [*], by have := HSN.out; omega⟩
                · exact HALL.out j (by omega)
              case measure => simp [intOf]; omega
            · have a1' : decide ((sn : Int) < 2 * (q : Int)) = false := by simp; omega
              by_cases a2 : 2 * q = sn
              · have a2' : (2 * (q : Int) == (sn : Int)) = true := by simp; omega
                have hqf : quo si (kf view (hol me (kvOf vals (min len 6)) last) si) = false := by rw [HQ.out]; simp [*]
                have HQF := Hid.mk' hqf
                clear hqf
                go_wp2
                exact HEND.out _ _ _ _ _ _ _ _ _ _ _ _ _ _ _ _ _ _ _ _ _ _ _ _ _ _ _ _ _ _ _ _ _ _ _ _ _ _ _ _ _ _ _ _ _ _ _ _ _ _ _ _ _ _ _ _ _ _ false _ hk10 (ne_of (f := fun l => quo l (kf view (hol me (kvOf vals (min len 6)) last) l)) HALL.out (by rw [HSI.out]; exact HQF.out) (by rw [HSI.out]; have := HSN.out; omega)) (by rw [kall_no (i := i) (by have := HLL.out; omega) (by rw [HSI.out]; exact HQF.out)]; simp)
              · have a2' : (2 * (q : Int) == (sn : Int)) = false := by simp; omega
                have hqf : quo si (kf view (hol me (kvOf vals (min len 6)) last) si) = false := by rw [HQ.out]; simp [*]
                have HQF := Hid.mk' hqf
                clear hqf
                go_wp2
                exact HEND.out _ _ _ _ _ _ _ _ _ _ _ _ _ _ _ _ _ _ _ _ _ _ _ _ _ _ _ _ _ _ _ _ _ _ _ _ _ _ _ _ _ _ _ _ _ _ _ _ _ _ _ _ _ _ _ _ _ _ false _ hk10 (ne_of (f := fun l => quo l (kf view (hol me (kvOf vals (min len 6)) last) l)) HALL.out (by rw [HSI.out]; exact HQF.out) (by rw [HSI.out]; have := HSN.out; omega)) (by rw [kall_no (i := i) (by have := HLL.out; omega) (by rw [HSI.out]; exact HQF.out)]; simp)
          | true =>
            by_cases a1 : sn < 2 * q
            · have a1' : decide ((sn : Int) < 2 * (q : Int)) = true := by simp; omega
              go_wp2
              go_roundw
              case rel =>
                refine ⟨i + 1, by omega, by go_num, rfl, hk10, fun j hj => ?_⟩
                by_cases hji : j = i
                · subst hji; rw [HSI.out]; exact ⟨by rw [HQ.out]; simp [*], by have := HSN.out; omega⟩
                · exact HALL.out j (by omega)
              case measure => simp [intOf]; omega
            · have a1' : decide ((sn : Int) < 2 * (q : Int)) = false := by simp; omega
              by_cases a2 : 2 * q = sn
              · have a2' : (2 * (q : Int) == (sn : Int)) = true := by simp; omega
                go_wp2
                go_roundw
                case rel =>
                  refine ⟨i + 1, by omega, by go_num, rfl, hk10, fun j hj => ?_⟩
                  by_cases hji : j = i
                  · subst hji; rw [HSI.out]; exact ⟨by rw [HQ.out]; simp [*], by have := HSN.out; omega⟩
                  · exact HALL.out j (by omega)
                case measure => simp [intOf]; omega
              · have a2' : (2 * (q : Int) == (sn : Int)) = false := by simp; omega
                have hqf : quo si (kf view (hol me (kvOf vals (min len 6)) last) si) = false := by rw [HQ.out]; simp [*]
                have HQF := Hid.mk' hqf
                clear hqf
                go_wp2
                exact HEND.out _ _ _ _ _ _ _ _ _ _ _ _ _ _ _ _ _ _ _ _ _ _ _ _ _ _ _ _ _ _ _ _ _ _ _ _ _ _ _ _ _ _ _ _ _ _ _ _ _ _ _ _ _ _ _ _ _ _ false _ hk10 (ne_of (f := fun l => quo l (kf view (hol me (kvOf vals (min len 6)) last) l)) HALL.out (by rw [HSI.out]; exact HQF.out) (by rw [HSI.out]; have := HSN.out; omega)) (by rw [kall_no (i := i) (by have := HLL.out; omega) (by rw [HSI.out]; exact HQF.out)]; simp)
    · obtain rfl : i = n := by omega
      have hka : kall view (hol me (kvOf vals (min len 6)) last) L = true := by
        unfold kall
        rw [List.all_eq_true]
        intro l hl
        obtain ⟨j, hj, rfl⟩ := List.getElem_of_mem hl
        have := (HALL.out j (by have := HLL.out; omega)).1
        simpa [hj] using this
      have HKA := Hid.mk' hka
      clear hka
      go_wp2
      exact HEND.out _ _ _ _ _ _ _ _ _ _ _ _ _ _ _ _ _ _ _ _ _ _ _ _ _ _ _ _ _ _ _ _ _ _ _ _ _ _ _ _ _ _ _ _ _ _ _ _ _ _ _ _ _ _ _ _ _ _ t0 _ hk (fun j hj _ => (HALL.out j hj).2) (by rw [HKA.out]; simp)
end Go.Proofs.Ybulkcdkc
