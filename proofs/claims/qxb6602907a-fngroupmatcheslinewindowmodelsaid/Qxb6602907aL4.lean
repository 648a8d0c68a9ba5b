import Derived.Test.Qxb6602907aI4
import Derived.Deep.CutBlock
import Derived.Deep.DeepCutAuto
import Derived.Deep.LoopGhost
import Derived.Deep.RegionWith
import Derived.Deep.RegionHeld3
import Derived.Deep.DrawnRows
import Derived.WalkLawsBesides
namespace Go.Proofs.Qxb6602907a
open Go.RowKit
set_option linter.unusedVariables false
attribute [local go_sem ↓] Go.wp_at_zero Go.wp_at_succ

theorem hvar_made (w : World) (fr tw fc tc : Int) (rv : Value) : HVar (w.alloc (.cells #[.int .i64 fr, .int .i64 tw, .int .i64 fc, .int .i64 tc, rv] 36)) w.heap.size fr tw fc tc rv := by
  refine ⟨?_, ?_, ?_, ?_, ?_, ?_⟩ <;> simp

theorem src_bytes {w : World} {base : Nat} {v : Value} {l : List UInt8} (h : BytesIn w base v l) : Src Try.prog 1 33 v l.length (bCells l) w := by
  obtain ⟨a, c, rfl⟩ := owns_len h
  rcases h.2 with ⟨he, h0⟩ | ⟨g, cap, cur, he, _, hg, _⟩
  · have : a = none := by simp at he; exact he.1
    subst this
    have hl : l = [] := List.eq_nil_of_length_eq_zero h0
    subst hl
    exact Src.ofNil _ Try.underlying33 _
  · have he' : a = some ⟨g, 0, none⟩ := by simp at he; exact he.1
    subst he'
    refine Src.ofSlice _ Try.underlying33 ⟨g, 0, none⟩ l.length c (bCells l) (by rw [bCells_length, Nat.mul_one]) (h.cells (g := g) rfl) ?_
    intro u hu
    unfold bCells at hu
    obtain ⟨_, _, rfl⟩ := List.mem_map.1 hu
    rfl

set_option maxHeartbeats 20000000 in
set_option maxRecDepth 8000 in
theorem loop4 (code : Code) (hcode : Try.f4.body.bind (findBlock 0) = some code) (C : Act → World → Prop) (wA : World) (s1 s2 : ByteArray) (g1 n1 g2 n2 K cv base B : Nat) (av : Option Addr) (z1 z2 : List Int) (hs : List Hk)
    (u4 u5 u6 u7 u8 u9 u10 u11 u12 u20 u21 u22 u23 u24 u25 u26 u27 u28 u29 u30 u31 u32 u33 u34 u35 u36 u37 u38 u39 u40 u41 u42 u43 u44 u45 u46 u47 u48 u49 u50 u51 u52 u53 u54 u55 u56 u57 u58 u59 u60 u61 u62 u63 u64 u65 u66 u67 u68 u69 u70 u71 u72 u73 u74 u75 u76 u77 u78 u79 u80 u81 u82 u83 u84 u85 u86 u87 u88 u89 u90 u91 u92 u93 u94 u95 u96 u97 u98 u99 u100 u101 u102 u103 u104 u105 u106 u107 u108 u109 u110 u111 u112 u113 u114 u115 u116 u117 u118 u119 u120 u121 u122 u123 u124 u125 u126 u127 u128 u129 u130 u131 u132 u133 u134 u135 u136 u137 u138 u139 u140 u141 u142 u143 u144 u145 u146 u147 u148 u149 u150 u151 u152 u153 u154 u155 u156 u157 u158 u159 u160 u161 u162 u163 u164 u165 u166 u167 u168 u169 u170 u171 u172 u173 u174 u175 u176 u177 u178 u179 u180 u181 u182 u183 u184 u185 u186 u187 u188 u189 u190 u191 u192 u193 u194 u195 u196 u197 u198 u199 u200 u201 u202 u203 u204 u205 u206 u207 u208 u209 u210 u211 u212 u213 u214 u215 u216 u217 u218 u219 u220 u221 u222 u223 u224 u225 u226 u227 u228 u229 u230 u231 u232 u233 u234 u235 u236 u237 u238 u239 u240 u241 u242 u243 u244 u245 u246 u247 u248 u249 u250 u251 u252 u253 u254 u255 u256 u257 u258 u259 u260 u261 u262 u263 u264 u265 u266 u267 u268 u269 u270 u271 u272 u273 u274 u275 u276 u277 u278 u279 u280 u281 u282 u283 u284 u285 u286 u287 u288 u289 u290 u291 u292 : Value)
    (HT1 : Hid (TextOK s1 z1)) (HT2 : Hid (TextOK s2 z2)) (HZ1 : Hid (z1.length = n1)) (HZ2 : Hid (z2.length = n2)) (HJ1 : Hid (I32At wA g1 0 z1)) (HJ2 : Hid (I32At wA g2 0 z2))
    (hs1 : s1.size ≤ 1048576) (hs2 : s2.size ≤ 1048576) (hn1 : n1 ≤ 1048576) (hn2 : n2 ≤ 1048576) (hp1 : 0 < n1) (hp2 : 0 < n2) (HH : Hid (HunksIn wA base (.slice av K cv) hs)) (HK : Hid (K = hs.length)) (hKb : K ≤ 9223372036854775807)
    (HBB : Hid (B = wA.heap.size)) (hg1B : g1 < B) (hg2B : g2 < B) (HP : Hid (Patches s1 z1 s2 z2 ((n1 : Int) - 1) ((n2 : Int) - 1) 0 0 [] hs))
    (hC : ∀ (v10 v19 v20 v21 v22 v23 v24 v25 v26 v102 v103 v104 v105 v106 v107 v108 v109 v110 v111 v112 v113 v114 v115 v116 v117 v118 v119 v120 v121 v122 v123 v124 v125 v126 v127 v128 v129 v130 v131 v132 v133 v134 v135 v136 v137 v138 v139 v140 v141 v142 v143 v144 v145 v146 v147 v148 v149 v150 v151 v152 v153 v154 v155 v156 v157 v158 v159 v160 v161 v162 v163 v164 v165 v166 v167 v168 v169 v170 v171 v172 v173 v174 v175 v176 v177 v178 v179 v180 v181 v182 v183 v184 v185 v186 v187 v188 v189 v190 v191 v192 v193 v194 v195 v196 v197 v198 v199 v200 v201 v202 v203 v204 v205 v206 v207 v208 v209 v210 v211 v212 v213 v214 v215 v216 v217 v218 v219 v220 v221 v222 v223 v224 v225 v226 v227 v228 v229 v230 v231 v232 v233 v234 v235 v236 v237 v238 v239 v240 v241 v242 v243 v244 v245 v246 v247 v248 v249 v250 v251 v252 v253 v254 v255 v256 v257 v258 v259 v260 v261 v262 v263 v264 v265 v266 v267 v268 v269 v270 v271 v272 vo : Value) (cu tcu : Int) (out : List UInt8) (wc : World), BytesIn wc B vo out → Patches s1 z1 s2 z2 ((n1 : Int) - 1) ((n2 : Int) - 1) cu tcu out [] → Below B wA wc → C ⟨#[.string s1, .slice (some ⟨g1, 0, none⟩) n1 n1, .string s2, .slice (some ⟨g2, 0, none⟩) n2 n2, u4, u5, u6, u7, u8, u9, v10, u11, u12, .int .i64 ((n1 : Int) - 1), .int .i64 ((n2 : Int) - 1), .slice av K cv, vo, .int .i64 cu, .int .i64 tcu, v19, v20, v21, v22, v23, v24, v25, v26, u27, u28, u29, u30, u31, u32, u33, u34, u35, u36, u37, u38, u39, u40, u41, u42, u43, u44, u45, u46, u47, u48, u49, u50, u51, u52, u53, u54, u55, u56, u57, u58, u59, u60, u61, u62, u63, u64, u65, u66, u67, u68, u69, u70, u71, u72, u73, u74, u75, u76, u77, u78, u79, u80, u81, u82, u83, u84, u85, u86, u87, u88, u89, u90, u91, u92, u93, u94, u95, u96, u97, u98, u99, u100, u101, v102, v103, v104, v105, v106, v107, v108, v109, v110, v111, v112, v113, v114, v115, v116, v117, v118, v119, v120, v121, v122, v123, v124, v125, v126, v127, v128, v129, v130, v131, v132, v133, v134, v135, v136, v137, v138, v139, v140, v141, v142, v143, v144, v145, v146, v147, v148, v149, v150, v151, v152, v153, v154, v155, v156, v157, v158, v159, v160, v161, v162, v163, v164, v165, v166, v167, v168, v169, v170, v171, v172, v173, v174, v175, v176, v177, v178, v179, v180, v181, v182, v183, v184, v185, v186, v187, v188, v189, v190, v191, v192, v193, v194, v195, v196, v197, v198, v199, v200, v201, v202, v203, v204, v205, v206, v207, v208, v209, v210, v211, v212, v213, v214, v215, v216, v217, v218, v219, v220, v221, v222, v223, v224, v225, v226, v227, v228, v229, v230, v231, v232, v233, v234, v235, v236, v237, v238, v239, v240, v241, v242, v243, v244, v245, v246, v247, v248, v249, v250, v251, v252, v253, v254, v255, v256, v257, v258, v259, v260, v261, v262, v263, v264, v265, v266, v267, v268, v269, v270, v271, v272, u273, u274, u275, u276, u277, u278, u279, u280, u281, u282, u283, u284, u285, u286, u287, u288, u289, u290, u291, u292], []⟩ wc) :
    Code.wp Try.prog code (OnlyN C) ⟨#[.string s1, .slice (some ⟨g1, 0, none⟩) n1 n1, .string s2, .slice (some ⟨g2, 0, none⟩) n2 n2, u4, u5, u6, u7, u8, u9, u10, u11, u12, .int .i64 ((n1 : Int) - 1), .int .i64 ((n2 : Int) - 1), .slice av K cv, .slice none 0 0, .int .i64 0, .int .i64 0, .int .i64 0, u20, u21, u22, u23, u24, u25, u26, u27, u28, u29, u30, u31, u32, u33, u34, u35, u36, u37, u38, u39, u40, u41, u42, u43, u44, u45, u46, u47, u48, u49, u50, u51, u52, u53, u54, u55, u56, u57, u58, u59, u60, u61, u62, u63, u64, u65, u66, u67, u68, u69, u70, u71, u72, u73, u74, u75, u76, u77, u78, u79, u80, u81, u82, u83, u84, u85, u86, u87, u88, u89, u90, u91, u92, u93, u94, u95, u96, u97, u98, u99, u100, u101, u102, u103, u104, u105, u106, u107, u108, u109, u110, u111, u112, u113, u114, u115, u116, u117, u118, u119, u120, u121, u122, u123, u124, u125, u126, u127, u128, u129, u130, u131, u132, u133, u134, u135, u136, u137, u138, u139, u140, u141, u142, u143, u144, u145, u146, u147, u148, u149, u150, u151, u152, u153, u154, u155, u156, u157, u158, u159, u160, u161, u162, u163, u164, u165, u166, u167, u168, u169, u170, u171, u172, u173, u174, u175, u176, u177, u178, u179, u180, u181, u182, u183, u184, u185, u186, u187, u188, u189, u190, u191, u192, u193, u194, u195, u196, u197, u198, u199, u200, u201, u202, u203, u204, u205, u206, u207, u208, u209, u210, u211, u212, u213, u214, u215, u216, u217, u218, u219, u220, u221, u222, u223, u224, u225, u226, u227, u228, u229, u230, u231, u232, u233, u234, u235, u236, u237, u238, u239, u240, u241, u242, u243, u244, u245, u246, u247, u248, u249, u250, u251, u252, u253, u254, u255, u256, u257, u258, u259, u260, u261, u262, u263, u264, u265, u266, u267, u268, u269, u270, u271, u272, u273, u274, u275, u276, u277, u278, u279, u280, u281, u282, u283, u284, u285, u286, u287, u288, u289, u290, u291, u292], []⟩ wA := by
  have hc0 := Option.some.inj (show some _ = some code from hcode)
  subst hc0
  clear hcode
  have HC : Hid (∀ (v10 v19 v20 v21 v22 v23 v24 v25 v26 v102 v103 v104 v105 v106 v107 v108 v109 v110 v111 v112 v113 v114 v115 v116 v117 v118 v119 v120 v121 v122 v123 v124 v125 v126 v127 v128 v129 v130 v131 v132 v133 v134 v135 v136 v137 v138 v139 v140 v141 v142 v143 v144 v145 v146 v147 v148 v149 v150 v151 v152 v153 v154 v155 v156 v157 v158 v159 v160 v161 v162 v163 v164 v165 v166 v167 v168 v169 v170 v171 v172 v173 v174 v175 v176 v177 v178 v179 v180 v181 v182 v183 v184 v185 v186 v187 v188 v189 v190 v191 v192 v193 v194 v195 v196 v197 v198 v199 v200 v201 v202 v203 v204 v205 v206 v207 v208 v209 v210 v211 v212 v213 v214 v215 v216 v217 v218 v219 v220 v221 v222 v223 v224 v225 v226 v227 v228 v229 v230 v231 v232 v233 v234 v235 v236 v237 v238 v239 v240 v241 v242 v243 v244 v245 v246 v247 v248 v249 v250 v251 v252 v253 v254 v255 v256 v257 v258 v259 v260 v261 v262 v263 v264 v265 v266 v267 v268 v269 v270 v271 v272 vo : Value) (cu tcu : Int) (out : List UInt8) (wc : World), BytesIn wc B vo out → Patches s1 z1 s2 z2 ((n1 : Int) - 1) ((n2 : Int) - 1) cu tcu out [] → Below B wA wc → C ⟨#[.string s1, .slice (some ⟨g1, 0, none⟩) n1 n1, .string s2, .slice (some ⟨g2, 0, none⟩) n2 n2, u4, u5, u6, u7, u8, u9, v10, u11, u12, .int .i64 ((n1 : Int) - 1), .int .i64 ((n2 : Int) - 1), .slice av K cv, vo, .int .i64 cu, .int .i64 tcu, v19, v20, v21, v22, v23, v24, v25, v26, u27, u28, u29, u30, u31, u32, u33, u34, u35, u36, u37, u38, u39, u40, u41, u42, u43, u44, u45, u46, u47, u48, u49, u50, u51, u52, u53, u54, u55, u56, u57, u58, u59, u60, u61, u62, u63, u64, u65, u66, u67, u68, u69, u70, u71, u72, u73, u74, u75, u76, u77, u78, u79, u80, u81, u82, u83, u84, u85, u86, u87, u88, u89, u90, u91, u92, u93, u94, u95, u96, u97, u98, u99, u100, u101, v102, v103, v104, v105, v106, v107, v108, v109, v110, v111, v112, v113, v114, v115, v116, v117, v118, v119, v120, v121, v122, v123, v124, v125, v126, v127, v128, v129, v130, v131, v132, v133, v134, v135, v136, v137, v138, v139, v140, v141, v142, v143, v144, v145, v146, v147, v148, v149, v150, v151, v152, v153, v154, v155, v156, v157, v158, v159, v160, v161, v162, v163, v164, v165, v166, v167, v168, v169, v170, v171, v172, v173, v174, v175, v176, v177, v178, v179, v180, v181, v182, v183, v184, v185, v186, v187, v188, v189, v190, v191, v192, v193, v194, v195, v196, v197, v198, v199, v200, v201, v202, v203, v204, v205, v206, v207, v208, v209, v210, v211, v212, v213, v214, v215, v216, v217, v218, v219, v220, v221, v222, v223, v224, v225, v226, v227, v228, v229, v230, v231, v232, v233, v234, v235, v236, v237, v238, v239, v240, v241, v242, v243, v244, v245, v246, v247, v248, v249, v250, v251, v252, v253, v254, v255, v256, v257, v258, v259, v260, v261, v262, v263, v264, v265, v266, v267, v268, v269, v270, v271, v272, u273, u274, u275, u276, u277, u278, u279, u280, u281, u282, u283, u284, u285, u286, u287, u288, u289, u290, u291, u292], []⟩ wc) := hC
  clear hC
  obtain ⟨i5, h50, h51, h52, h53⟩ := info_parts Try.info5
  go_wp2
  go_loopg [16, 17, 18, 19] K (fun gk vo vcu vtc vk wr => ∃ (k : Nat) (cu tcu : Int) (out : List UInt8), gk + k = K ∧ vk = .int .i64 k ∧ vcu = .int .i64 cu ∧ vtc = .int .i64 tcu ∧ Hid (BytesIn wr B vo out) ∧ Hid (Patches s1 z1 s2 z2 ((n1 : Int) - 1) ((n2 : Int) - 1) cu tcu out (hs.drop k)) ∧ Hid (Below B wA wr) ∧ B ≤ wr.heap.size)
  case atStart => exact ⟨0, 0, 0, [], by omega, rfl, rfl, rfl, World.ownsRow_nil _ _ _ _, HP, Below.refl _ _, by rw [HBB.out]; exact Nat.le_refl _⟩
  case round =>
    obtain ⟨k, cu, tcu, out, hk, rfl, rfl, rfl, HO, HPk, HBr, hBr⟩ := hrel
    obtain ⟨G, rfl⟩ : ∃ G, G = gk := ⟨_, rfl⟩
    obtain ⟨vo, rfl⟩ : ∃ vo, vo = u16 := ⟨_, rfl⟩
    have HJr1 : Hid (I32At wr g1 0 z1) := HJ1.out.below HBr.out hg1B
    have HJr2 : Hid (I32At wr g2 0 z2) := HJ2.out.below HBr.out hg2B
    by_cases hlt : k < K
    · obtain ⟨x, hx⟩ : ∃ x, hs[k]? = some x := ⟨hs[k]'(by rw [← HK.out]; exact hlt), by simp⟩
      obtain ⟨gh, rv, rfl, hgh, c0, c1', c2', c3, c4, hrun⟩ := hunks_at HH.out hx
      rw [← HBB.out] at hgh
      have hdk : hs.drop k = x :: hs.drop (k + 1) := by
        have hl : k < hs.length := by rw [← HK.out]; exact hlt
        rw [List.drop_eq_getElem_cons hl]
        rw [List.getElem?_eq_getElem hl] at hx
        simp at hx
        rw [hx]
      have hPP := HPk.out
      rw [hdk] at hPP
      obtain ⟨fs, ts, q1, q2, q3, q4, q5, q6, q7, q8, q9⟩ := hPP
      obtain ⟨fr, tw, fc, tc, runs⟩ := x
      simp only at q1 q2 q3 q4 q5 q6 q7 q8 q9 c0 c1' c2' c3 c4 hrun
      subst q1 q2
      have c0 := (HBr.out.cell (p := ⟨gh, k * 5, none⟩) hgh).trans c0
      have c1' := (HBr.out.cell (p := ⟨gh, k * 5 + 1, none⟩) hgh).trans c1'
      have c2' := (HBr.out.cell (p := ⟨gh, k * 5 + 2, none⟩) hgh).trans c2'
      have c3 := (HBr.out.cell (p := ⟨gh, k * 5 + 3, none⟩) hgh).trans c3
      have c4 := (HBr.out.cell (p := ⟨gh, k * 5 + 4, none⟩) hgh).trans c4
      have HRN : Hid (RunsIn wA base rv runs) := hrun
      have HOPS : Hid (OpsOK runs ∧ olds runs = T s1 z1 fs (fs + fc) ∧ news runs = T s2 z2 ts (ts + tc)) := ⟨q6, q7, q8⟩
      have HNX : Hid (Patches s1 z1 s2 z2 ((n1 : Int) - 1) ((n2 : Int) - 1) (fs + fc) (ts + tc) (out ++ T s1 z1 cu fs ++ news runs) (hs.drop (k + 1))) := q9
      have q5a : ts - tcu ≤ fs - cu := by omega
      have q5b : fs - cu ≤ ts - tcu := by omega
      have hol : out.length ≤ s2.size := patches_len _ _ _ _ HPk.out
      clear hx hrun q5 q6 q7 q8 q9 hdk HPk
      obtain ⟨ar, nr, cr, rfl⟩ := owns_shape HRN.out
      have ik : (k : Int) < K := by omega
      go_upto_if 116 with fail
      obtain ⟨bh, HBH⟩ : ∃ bh, Hid (bh = wr.heap.size) := ⟨_, rfl⟩
      obtain ⟨wq, hwq⟩ : ∃ wq, wq = wr.alloc (Obj.cells #[Value.int IntKind.i64 (bump fc fs), Value.int IntKind.i64 (bump tc ts), Value.int IntKind.i64 fc, Value.int IntKind.i64 tc, Value.slice ar nr cr] 36) := ⟨_, rfl⟩
      have hvm := hvar_made wr (bump fc fs) (bump tc ts) fc tc (.slice ar nr cr)
      rw [← hwq, ← HBH.out] at hvm
      have HBq : Hid (Below wr.heap.size wr wq) := by rw [hwq]; exact (Below.refl _ _).alloc (Nat.le_refl _) _
      have hqz : wq.heap.size = bh + 1 := by rw [hwq, HBH.out]; simp
      rw [← hwq, ← HBH.out]
      have hBh : B ≤ bh := by rw [HBH.out]; exact hBr
      clear hwq c0 c1' c2' c3 c4
      obtain ⟨d0, d1, d2, d3, d4, hvf⟩ := hvm
      have HOq : Hid (BytesIn wq B vo out) := owns_below HO.out HBq.out (fun k hk => (World.ownsRow.lt HO.out k hk).2)
      have HBwq : Hid (Below B wA wq) := HBr.out.trans (HBq.out.mono hBr)
      have HRq : Hid (RunsIn wq base (.slice ar nr cr) runs) := owns_below HRN.out HBwq.out (fun k hk => by rw [HBB.out]; exact (World.ownsRow.lt HRN.out k hk).2)
      have HJq1 : Hid (I32At wq g1 0 z1) := HJ1.out.below HBwq.out hg1B
      have HJq2 : Hid (I32At wq g2 0 z2) := HJ2.out.below HBwq.out hg2B
      go_cut [21] from 108 to 118 (fun v21 wc => v21 = .int .i64 fs ∧ wc = wq)
      case first =>
        by_cases hfc : 0 < fc
        · have hbu : bump fc fs = fs + 1 := if_pos hfc
          rw [hbu]
          clear hbu
          go_wp2
          go_meet
          case rel => exact ⟨by first | rfl | (congr 1; omega), rfl⟩
        · have hbu : bump fc fs = fs := if_neg hfc
          rw [hbu]
          clear hbu
          go_wp2
          go_meet
          case rel => exact ⟨rfl, rfl⟩
      case rest =>
        obtain ⟨rfl, hq⟩ := hcut
        rw [hq]
        clear hq
        go_upto_if 123 with fail
        go_cut [22] from 119 to 125 (fun v22 wc => v22 = .int .i64 ts ∧ wc = wq)
        case first =>
          by_cases hfc : 0 < tc
          · have hbu : bump tc ts = ts + 1 := if_pos hfc
            rw [hbu]
            clear hbu
            go_wp2
            go_meet
            case rel => exact ⟨by first | rfl | (congr 1; omega), rfl⟩
          · have hbu : bump tc ts = ts := if_neg hfc
            rw [hbu]
            clear hbu
            go_wp2
            go_meet
            case rel => exact ⟨rfl, rfl⟩
        case rest =>
          obtain ⟨rfl, hq⟩ := hcut
          rw [hq]
          clear hq
          go_upto_region 49 with fail
          refine wp_onlyN (reg49 _ (by rfl) _ wq s1 g1 n1 B z1 cu fs vo out _ _ _ _ _ _ _ _ _ _ _ _ _ _ _ _ _ _ _ _ _ _ _ _ _ _ _ _ _ _ _ _ _ _ _ _ _ _ _ _ _ _ _ _ _ _ _ _ _ _ _ _ _ _ _ _ _ _ _ _ _ _ _ _ _ _ _ _ _ _ _ _ _ _ _ _ _ _ _ _ _ _ _ _ _ _ _ _ _ _ _ _ _ _ _ _ _ _ _ _ _ _ _ _ _ _ _ _ _ _ _ _ _ _ _ _ _ _ _ _ _ _ _ _ _ _ _ _ _ _ _ _ _ _ _ _ _ _ _ _ _ _ _ _ _ _ _ _ _ _ _ _ _ _ _ _ _ _ _ _ _ _ _ _ _ _ _ _ _ _ _ _ _ _ _ _ _ _ _ _ _ _ _ _ _ _ _ _ _ _ _ _ _ _ _ _ _ _ _ _ _ _ _ _ _ _ _ _ _ _ _ _ _ _ _ _ _ _ _ _ _ _ _ _ _ _ _ _ _ _ _ _ _ _ _ _ _ _ _ _ _ _ _ _ _ _ _ _ _ _ _ _ _ _ _ _ _ _ _ _ _ _ _ _ _ _ _ _ _ _ _ _ _ _ _ _ _ _ _ _ _ _ _ _ _ _ _ _ HJq1.out HZ1.out HT1.out hn1 hs1 (by omega) (by omega) (by omega) HOq.out (by omega) (by omega) ?_)
          intro _ _ _ _ _ _ _ _ _ _ _ _ _ _ vo1 w1 hO1 hg1 hat1
          have HO1 : Hid (BytesIn w1 B vo1 (out ++ T s1 z1 cu fs)) := hO1
          have hvb : ∀ k, vo.ownBlock = some k → B ≤ k ∧ k < bh := fun k hk => by have := World.ownsRow.lt HO.out k hk; rw [HBH.out]; exact this
          have hne : some bh ≠ vo.ownBlock := fun e => by have := (hvb bh e.symm).2; omega
          have HB1 : Hid (Below B wq w1) := grown_below hg1 (by omega) (fun k hk => (hvb k hk).1)
          have hz1 : wq.heap.size ≤ w1.heap.size := hg1.size
          have HV1 : Hid (HVar w1 bh (bump fc fs) (bump tc ts) fc tc (.slice ar nr cr)) := HVar.kept ⟨d0, d1, d2, d3, d4, hvf⟩ (hg1.block bh (by omega) hne)
          have HBw1 : Hid (Below B wA w1) := HBwq.out.trans HB1.out
          have HR1 : Hid (RunsIn w1 base (.slice ar nr cr) runs) := owns_below HRN.out HBw1.out (fun k hk => by rw [HBB.out]; exact (World.ownsRow.lt HRN.out k hk).2)
          have hnr : nr = runs.length := by
            obtain ⟨a', c', he⟩ := owns_len HRN.out
            simp at he
            exact he.2.1
          have HNR : Hid (nr = runs.length) := hnr
          have hnrb : nr ≤ 9223372036854775807 := by have := owns_max HRN.out; rw [← hnr] at this; unfold maxLen at this; exact this
          have hlo : (olds runs).length ≤ 1048576 := by rw [HOPS.out.2.1]; exact Nat.le_trans (segI_size s1 z1 fs (fs + fc)) hs1
          have hln : (news runs).length ≤ 1048576 := by rw [HOPS.out.2.2]; exact Nat.le_trans (segI_size s2 z2 ts (ts + tc)) hs2
          have h4 := HV1.out.2.2.2.2.1
          have hne1 : some bh ≠ vo1.ownBlock := by
            rcases hat1 with e | e
            · rw [e]; exact hne
            · rw [e, hqz]; simp
          clear hO1 hg1 hat1 hnr d0 d1 d2 d3 d4
          go_upto_block 2 with fail
          obtain ⟨B3, HB3⟩ : ∃ B3, Hid (B3 = w1.heap.size) := ⟨_, rfl⟩
          have hbh3 : bh < B3 := by rw [HB3.out]; omega
          refine wp_onlyN (runs4 _ (by rfl) _ w1 bh base nr cr B3 ar runs _ _ _ _ _ _ _ _ _ _ _ _ _ _ _ _ _ _ _ _ _ _ _ _ _ _ _ _ _ _ _ _ _ _ _ _ _ _ _ _ _ _ _ _ _ _ _ _ _ _ _ _ _ _ _ _ _ _ _ _ _ _ _ _ _ _ _ _ _ _ _ _ _ _ _ _ _ _ _ _ _ _ _ _ _ _ _ _ _ _ _ _ _ _ _ _ _ _ _ _ _ _ _ _ _ _ _ _ _ _ _ _ _ _ _ _ _ _ _ _ _ _ _ _ _ _ _ _ _ _ _ _ _ _ _ _ _ _ _ _ _ _ _ _ _ _ _ _ _ _ _ _ _ _ _ _ _ _ _ _ _ _ _ _ _ _ _ _ _ _ _ _ _ _ _ _ _ _ _ _ _ _ _ _ _ _ _ _ _ _ _ _ _ _ _ _ _ _ _ _ _ _ _ _ _ _ _ _ _ _ _ _ _ _ _ _ _ _ _ _ _ _ _ _ _ _ _ _ _ _ _ _ _ _ _ _ _ _ _ _ _ _ _ _ _ _ _ _ _ _ _ _ _ _ _ _ _ _ _ _ _ _ _ _ _ _ _ _ _ _ _ _ _ _ _ _ _ _ _ _ _ _ _ _ _ _ _ _ _ HB3 hbh3 h4 HR1 HNR hnrb HOPS.out.1 hlo hln ?_)
          intro _ _ _ _ _ _ _ _ _ _ _ _ _ _ _ _ _ _ _ _ _ _ _ _ _ _ _ _ _ _ _ _ _ _ _ _ _ _ _ _ vold vnew w2 hTw hB2
          have HTw : Hid (Two w2 B3 vold vnew (olds runs) (news runs)) := hTw
          have HB2 : Hid (Below B3 w1 w2) := hB2
          have hz2 : w1.heap.size ≤ w2.heap.size := hB2.size
          have hB3le : B ≤ B3 := by rw [HB3.out]; omega
          have HBw2 : Hid (Below B wA w2) := HBw1.out.trans (HB2.out.mono hB3le)
          have HV2 : Hid (HVar w2 bh (bump fc fs) (bump tc ts) fc tc (.slice ar nr cr)) := HV1.out.kept (HB2.out.block bh hbh3)
          have HO2 : Hid (BytesIn w2 B vo1 (out ++ T s1 z1 cu fs)) := owns_below HO1.out HB2.out (fun k hk => by rw [HB3.out]; exact (World.ownsRow.lt HO1.out k hk).2)
          have HJ21 : Hid (I32At w2 g1 0 z1) := HJ1.out.below HBw2.out hg1B
          have HJ22 : Hid (I32At w2 g2 0 z2) := HJ2.out.below HBw2.out hg2B
          clear hTw hB2 h4
          go_upto_region 64 with fail
          refine wp_onlyN (reg64 _ (by rfl) _ w2 s1 g1 n1 B3 bh z1 fs fc vold (olds runs) _ _ _ _ _ _ _ _ _ _ _ _ _ _ _ _ _ _ _ _ _ _ _ _ _ _ _ _ _ _ _ _ _ _ _ _ _ _ _ _ _ _ _ _ _ _ _ _ _ _ _ _ _ _ _ _ _ _ _ _ _ _ _ _ _ _ _ _ _ _ _ _ _ _ _ _ _ _ _ _ _ _ _ _ _ _ _ _ _ _ _ _ _ _ _ _ _ _ _ _ _ _ _ _ _ _ _ _ _ _ _ _ _ _ _ _ _ _ _ _ _ _ _ _ _ _ _ _ _ _ _ _ _ _ _ _ _ _ _ _ _ _ _ _ _ _ _ _ _ _ _ _ _ _ _ _ _ _ _ _ _ _ _ _ _ _ _ _ _ _ _ _ _ _ _ _ _ _ _ _ _ _ _ _ _ _ _ _ _ _ _ _ _ _ _ _ _ _ _ _ _ _ _ _ _ _ _ _ _ _ _ _ _ _ _ _ _ _ _ _ _ _ _ _ _ _ _ _ _ _ _ _ _ _ _ _ _ _ _ _ _ _ _ _ _ _ _ _ _ _ _ _ _ _ _ _ _ _ _ _ _ _ _ _ _ _ _ _ _ _ _ _ _ _ _ _ _ _ _ _ _ _ _ _ _ _ _ _ HJ21.out HZ1.out HT1.out hn1 hs1 (by omega) (by omega) (by omega) HTw.out.1 HOPS.out.2.1 HV2.out.2.2.1 ?_)
          intro _ _ _ _ _ _ _ _ _ _ _ _ _ _ _ _ _ nq
          obtain ⟨w3, hw3⟩ : ∃ w3, w3 = w2.drewN nq := ⟨_, rfl⟩
          have HW3 : Hid (w3 = w2.drewN nq) := hw3
          rw [← hw3]
          clear hw3
          go_upto_region 66 with fail
          refine wp_onlyN (reg66 _ (by rfl) _ w3 s2 g2 n2 B3 bh z2 ts tc vnew (news runs) _ _ _ _ _ _ _ _ _ _ _ _ _ _ _ _ _ _ _ _ _ _ _ _ _ _ _ _ _ _ _ _ _ _ _ _ _ _ _ _ _ _ _ _ _ _ _ _ _ _ _ _ _ _ _ _ _ _ _ _ _ _ _ _ _ _ _ _ _ _ _ _ _ _ _ _ _ _ _ _ _ _ _ _ _ _ _ _ _ _ _ _ _ _ _ _ _ _ _ _ _ _ _ _ _ _ _ _ _ _ _ _ _ _ _ _ _ _ _ _ _ _ _ _ _ _ _ _ _ _ _ _ _ _ _ _ _ _ _ _ _ _ _ _ _ _ _ _ _ _ _ _ _ _ _ _ _ _ _ _ _ _ _ _ _ _ _ _ _ _ _ _ _ _ _ _ _ _ _ _ _ _ _ _ _ _ _ _ _ _ _ _ _ _ _ _ _ _ _ _ _ _ _ _ _ _ _ _ _ _ _ _ _ _ _ _ _ _ _ _ _ _ _ _ _ _ _ _ _ _ _ _ _ _ _ _ _ _ _ _ _ _ _ _ _ _ _ _ _ _ _ _ _ _ _ _ _ _ _ _ _ _ _ _ _ _ _ _ _ _ _ _ _ _ _ _ _ _ _ _ _ _ _ _ _ _ _ _ (by rw [HW3.out]; exact HJ22.out) HZ2.out HT2.out hn2 hs2 (by omega) (by omega) (by omega) (by rw [HW3.out]; exact HTw.out.2.1) HOPS.out.2.2 (by rw [HW3.out]; exact HV2.out.2.2.2.1) ?_)
          intro _ _ _ _ _ _ _ _ _ _ _ _ _ _ _ _ _ nq2
          obtain ⟨w4, hw4⟩ : ∃ w4, w4 = w3.drewN nq2 := ⟨_, rfl⟩
          have HV4 : Hid (HVar w4 bh (bump fc fs) (bump tc ts) fc tc (.slice ar nr cr)) := by rw [hw4, HW3.out]; exact HV2.out
          have HO4 : Hid (BytesIn w4 B vo1 (out ++ T s1 z1 cu fs)) := by rw [hw4, HW3.out]; exact HO2.out
          have HS4 : Hid (Src Try.prog 1 33 vnew (news runs).length (bCells (news runs)) w4) := by rw [hw4, HW3.out]; exact src_bytes (base := B3) (w := (w2.drewN nq).drewN nq2) HTw.out.2.1
          have HBw4 : Hid (Below B wA w4) := by rw [hw4, HW3.out]; exact below_drewN (below_drewN HBw2.out _) _
          have hz4 : B ≤ w4.heap.size := by rw [hw4, HW3.out]; show B ≤ w2.heap.size; omega
          have hbh4 : bh < w4.heap.size := by rw [hw4, HW3.out]; show bh < w2.heap.size; omega
          rw [← hw4]
          clear hw4
          have hol2 : (out ++ T s1 z1 cu fs).length + (news runs).length ≤ 1048576 := by
            have := patches_len _ _ _ _ HNX.out
            rw [List.length_append] at this
            omega
          have f2 := HV4.out.2.2.1
          have f3 := HV4.out.2.2.2.1
          clear hvb hne HB1 HBq hqz HJr1 HJr2 HOq HJq1 HJq2 HRq HV1 HR1 HNR hnrb hlo HTw HB2 HV2 HO2 HJ21 HJ22 HW3 HB3
          go_wp2_with (at_builtin; refine wpList_append_src _ rfl (.tmp 262) (.tmp 263) 33 33 rfl B 5 i5 _ 1 1 Try.underlying33 h50 h51 h52 h53 rfl (by decide) vo1 _ _ rfl (by exact HO4.out) vnew _ _ rfl (by exact HS4.out) (by unfold maxLen; omega) (by omega) (by omega) ?_; intro vo2 w5 ho5 hg5 hat5; have f2' := hg5.cell f2 hne1; have f3' := hg5.cell f3 hne1)
          go_roundg (G - 1)
          case measure => omega
          case rel => exact ⟨k + 1, fs + fc, ts + tc, out ++ T s1 z1 cu fs ++ news runs, by omega, by go_num, rfl, rfl, by unfold Hid BytesIn; rw [List.length_append, bCells_append]; exact ho5, HNX, HBw4.out.trans (grown_below hg5 hz4 (fun k hk => (World.ownsRow.lt HO4.out k hk).1)), by have := hg5.size; omega⟩
    · have hPd := HPk.out
      rw [List.drop_eq_nil_of_le (by rw [← HK.out]; omega)] at hPd
      go_wp2
      exact HC.out _ _ _ _ _ _ _ _ _ _ _ _ _ _ _ _ _ _ _ _ _ _ _ _ _ _ _ _ _ _ _ _ _ _ _ _ _ _ _ _ _ _ _ _ _ _ _ _ _ _ _ _ _ _ _ _ _ _ _ _ _ _ _ _ _ _ _ _ _ _ _ _ _ _ _ _ _ _ _ _ _ _ _ _ _ _ _ _ _ _ _ _ _ _ _ _ _ _ _ _ _ _ _ _ _ _ _ _ _ _ _ _ _ _ _ _ _ _ _ _ _ _ _ _ _ _ _ _ _ _ _ _ _ _ _ _ _ _ _ _ _ _ _ _ _ _ _ _ _ _ _ _ _ _ _ _ _ _ _ _ _ _ _ _ _ _ _ _ _ _ _ _ _ _ _ _ _ _ _ _ _ cu tcu out _ HO.out hPd HBr.out
end Go.Proofs.Qxb6602907a
