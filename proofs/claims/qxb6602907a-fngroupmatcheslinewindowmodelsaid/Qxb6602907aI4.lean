import Derived.Test.Qxb6602907aR64
import Derived.Deep.CutBlock
import Derived.Deep.DeepCutAuto
import Derived.Deep.LoopGhost
namespace Go.Proofs.Qxb6602907a
open Go.RowKit
set_option linter.unusedVariables false

def findBlock (n : Nat) : Code → Option Code
  | .block id c => if id = n then some (.block id c) else findBlock n c
  | .seq a b => match findBlock n a with
    | some c => some c
    | none => findBlock n b
  | .cond _ a b => match findBlock n a with
    | some c => some c
    | none => findBlock n b
  | .loop c => findBlock n c
  | .scope c => findBlock n c
  | _ => none

theorem take_succ' {α : Type} {l : List α} {q : Nat} {r : α} (h : l[q]? = some r) : l.take (q + 1) = l.take q ++ [r] := by
  have hlt : q < l.length := by
    rcases Nat.lt_or_ge q l.length with h' | h'
    · exact h'
    · rw [List.getElem?_eq_none h'] at h; cases h
  rw [List.getElem?_eq_getElem hlt] at h
  simp at h
  rw [List.take_succ_eq_append_getElem hlt, h]

theorem olds_take {rs : List (Int × ByteArray)} {q : Nat} {r : Int × ByteArray} (h : rs[q]? = some r) : olds (rs.take (q + 1)) = olds (rs.take q) ++ if r.1 = 43 then [] else r.2.data.toList := by
  rw [take_succ' h]; simp [olds]
theorem news_take {rs : List (Int × ByteArray)} {q : Nat} {r : Int × ByteArray} (h : rs[q]? = some r) : news (rs.take (q + 1)) = news (rs.take q) ++ if r.1 = 45 then [] else r.2.data.toList := by
  rw [take_succ' h]; simp [news]
theorem olds_le (rs : List (Int × ByteArray)) (q : Nat) : (olds (rs.take q)).length ≤ (olds rs).length := by
  have : olds rs = olds (rs.take q) ++ olds (rs.drop q) := by rw [olds, olds, olds, ← List.flatMap_append, List.take_append_drop]
  rw [this, List.length_append]; omega
theorem news_le (rs : List (Int × ByteArray)) (q : Nat) : (news (rs.take q)).length ≤ (news rs).length := by
  have : news rs = news (rs.take q) ++ news (rs.drop q) := by rw [news, news, news, ← List.flatMap_append, List.take_append_drop]
  rw [this, List.length_append]; omega

set_option maxHeartbeats 20000000 in
set_option maxRecDepth 8000 in
theorem runs4 (code : Code) (hcode : Try.f4.body.bind (findBlock 2) = some code) (C : Act → World → Prop) (w : World) (bh base R cr B : Nat) (ar : Option Addr) (runs : List (Int × ByteArray))
    (u0 u1 u2 u3 u4 u5 u6 u7 u8 u9 u10 u11 u12 u13 u14 u15 u16 u17 u18 u19 u21 u22 u26 u27 u28 u29 u30 u31 u32 u33 u34 u35 u36 u37 u38 u39 u40 u41 u42 u43 u44 u45 u46 u47 u48 u49 u50 u51 u52 u53 u54 u55 u56 u57 u58 u59 u60 u61 u62 u63 u64 u65 u66 u67 u68 u69 u70 u71 u72 u73 u74 u75 u76 u77 u78 u79 u80 u81 u82 u83 u84 u85 u86 u87 u88 u89 u90 u91 u92 u93 u94 u95 u96 u97 u98 u99 u100 u101 u102 u103 u104 u105 u106 u107 u108 u109 u110 u111 u112 u113 u114 u115 u116 u117 u118 u119 u120 u121 u122 u123 u124 u125 u126 u127 u128 u129 u130 u131 u132 u133 u134 u135 u136 u137 u138 u139 u140 u141 u142 u143 u144 u145 u146 u147 u148 u149 u150 u151 u152 u153 u154 u155 u156 u157 u158 u159 u160 u161 u162 u163 u164 u165 u166 u167 u168 u169 u170 u171 u172 u173 u174 u175 u176 u177 u178 u179 u180 u181 u182 u183 u184 u185 u186 u187 u188 u189 u190 u191 u192 u193 u194 u195 u196 u197 u198 u199 u200 u201 u202 u203 u204 u205 u206 u207 u208 u209 u210 u211 u212 u213 u214 u215 u216 u217 u218 u219 u220 u221 u222 u223 u224 u225 u226 u227 u228 u229 u230 u231 u232 u233 u234 u235 u236 u237 u238 u239 u240 u241 u242 u243 u244 u245 u246 u247 u248 u249 u250 u251 u252 u253 u254 u255 u256 u257 u258 u259 u260 u261 u262 u263 u264 u265 u266 u267 u268 u269 u270 u271 u272 u273 u274 u275 u276 u277 u278 u279 u280 u281 u282 u283 u284 u285 u286 u287 u288 u289 u290 u291 u292 : Value)
    (HB : Hid (B = w.heap.size)) (hbh : bh < B) (hc4 : w.cell? ⟨bh, 4, none⟩ = some (.slice ar R cr)) (HR : Hid (RunsIn w base (.slice ar R cr) runs)) (HL : Hid (R = runs.length)) (hRb : R ≤ 9223372036854775807) (HOps : Hid (OpsOK runs)) (ho : (olds runs).length ≤ 1048576) (hn : (news runs).length ≤ 1048576)
    (hC : ∀ (v10 v25 v26 v189 v190 v191 v192 v193 v194 v195 v196 v197 v198 v199 v200 v201 v202 v203 v204 v205 v206 v207 v208 v209 v210 v211 v212 v213 v214 v215 v216 v217 v218 v219 v220 v221 v222 v223 v224 v225 vo vn : Value) (wc : World), Two wc B vo vn (olds runs) (news runs) → Below B w wc → C ⟨#[u0, u1, u2, u3, u4, u5, u6, u7, u8, u9, v10, u11, u12, u13, u14, u15, u16, u17, u18, u19, .pointer (some ⟨bh, 0, none⟩), u21, u22, vo, vn, v25, v26, u27, u28, u29, u30, u31, u32, u33, u34, u35, u36, u37, u38, u39, u40, u41, u42, u43, u44, u45, u46, u47, u48, u49, u50, u51, u52, u53, u54, u55, u56, u57, u58, u59, u60, u61, u62, u63, u64, u65, u66, u67, u68, u69, u70, u71, u72, u73, u74, u75, u76, u77, u78, u79, u80, u81, u82, u83, u84, u85, u86, u87, u88, u89, u90, u91, u92, u93, u94, u95, u96, u97, u98, u99, u100, u101, u102, u103, u104, u105, u106, u107, u108, u109, u110, u111, u112, u113, u114, u115, u116, u117, u118, u119, u120, u121, u122, u123, u124, u125, u126, u127, u128, u129, u130, u131, u132, u133, u134, u135, u136, u137, u138, u139, u140, u141, u142, u143, u144, u145, u146, u147, u148, u149, u150, u151, u152, u153, u154, u155, u156, u157, u158, u159, u160, u161, u162, u163, u164, u165, u166, u167, u168, u169, u170, u171, u172, u173, u174, u175, u176, u177, u178, u179, u180, u181, u182, u183, u184, u185, u186, u187, u188, v189, v190, v191, v192, v193, v194, v195, v196, v197, v198, v199, v200, v201, v202, v203, v204, v205, v206, v207, v208, v209, v210, v211, v212, v213, v214, v215, v216, v217, v218, v219, v220, v221, v222, v223, v224, v225, u226, u227, u228, u229, u230, u231, u232, u233, u234, u235, u236, u237, u238, u239, u240, u241, u242, u243, u244, u245, u246, u247, u248, u249, u250, u251, u252, u253, u254, u255, u256, u257, u258, u259, u260, u261, u262, u263, u264, u265, u266, u267, u268, u269, u270, u271, u272, u273, u274, u275, u276, u277, u278, u279, u280, u281, u282, u283, u284, u285, u286, u287, u288, u289, u290, u291, u292], []⟩ wc) :
    Code.wp Try.prog code (OnlyN C) ⟨#[u0, u1, u2, u3, u4, u5, u6, u7, u8, u9, u10, u11, u12, u13, u14, u15, u16, u17, u18, u19, .pointer (some ⟨bh, 0, none⟩), u21, u22, .slice none 0 0, .slice none 0 0, .int .i64 0, u26, u27, u28, u29, u30, u31, u32, u33, u34, u35, u36, u37, u38, u39, u40, u41, u42, u43, u44, u45, u46, u47, u48, u49, u50, u51, u52, u53, u54, u55, u56, u57, u58, u59, u60, u61, u62, u63, u64, u65, u66, u67, u68, u69, u70, u71, u72, u73, u74, u75, u76, u77, u78, u79, u80, u81, u82, u83, u84, u85, u86, u87, u88, u89, u90, u91, u92, u93, u94, u95, u96, u97, u98, u99, u100, u101, u102, u103, u104, u105, u106, u107, u108, u109, u110, u111, u112, u113, u114, u115, u116, u117, u118, u119, u120, u121, u122, u123, u124, u125, u126, u127, u128, u129, u130, u131, u132, u133, u134, u135, u136, u137, u138, u139, u140, u141, u142, u143, u144, u145, u146, u147, u148, u149, u150, u151, u152, u153, u154, u155, u156, u157, u158, u159, u160, u161, u162, u163, u164, u165, u166, u167, u168, u169, u170, u171, u172, u173, u174, u175, u176, u177, u178, u179, u180, u181, u182, u183, u184, u185, u186, u187, u188, u189, u190, u191, u192, u193, u194, u195, u196, u197, u198, u199, u200, u201, u202, u203, u204, u205, u206, u207, u208, u209, u210, u211, u212, u213, u214, u215, u216, u217, u218, u219, u220, u221, u222, u223, u224, u225, u226, u227, u228, u229, u230, u231, u232, u233, u234, u235, u236, u237, u238, u239, u240, u241, u242, u243, u244, u245, u246, u247, u248, u249, u250, u251, u252, u253, u254, u255, u256, u257, u258, u259, u260, u261, u262, u263, u264, u265, u266, u267, u268, u269, u270, u271, u272, u273, u274, u275, u276, u277, u278, u279, u280, u281, u282, u283, u284, u285, u286, u287, u288, u289, u290, u291, u292], []⟩ w := by
  have hc0 := Option.some.inj (show some _ = some code from hcode)
  subst hc0
  clear hcode
  have HC : Hid (∀ (v10 v25 v26 v189 v190 v191 v192 v193 v194 v195 v196 v197 v198 v199 v200 v201 v202 v203 v204 v205 v206 v207 v208 v209 v210 v211 v212 v213 v214 v215 v216 v217 v218 v219 v220 v221 v222 v223 v224 v225 vo vn : Value) (wc : World), Two wc B vo vn (olds runs) (news runs) → Below B w wc → C ⟨#[u0, u1, u2, u3, u4, u5, u6, u7, u8, u9, v10, u11, u12, u13, u14, u15, u16, u17, u18, u19, .pointer (some ⟨bh, 0, none⟩), u21, u22, vo, vn, v25, v26, u27, u28, u29, u30, u31, u32, u33, u34, u35, u36, u37, u38, u39, u40, u41, u42, u43, u44, u45, u46, u47, u48, u49, u50, u51, u52, u53, u54, u55, u56, u57, u58, u59, u60, u61, u62, u63, u64, u65, u66, u67, u68, u69, u70, u71, u72, u73, u74, u75, u76, u77, u78, u79, u80, u81, u82, u83, u84, u85, u86, u87, u88, u89, u90, u91, u92, u93, u94, u95, u96, u97, u98, u99, u100, u101, u102, u103, u104, u105, u106, u107, u108, u109, u110, u111, u112, u113, u114, u115, u116, u117, u118, u119, u120, u121, u122, u123, u124, u125, u126, u127, u128, u129, u130, u131, u132, u133, u134, u135, u136, u137, u138, u139, u140, u141, u142, u143, u144, u145, u146, u147, u148, u149, u150, u151, u152, u153, u154, u155, u156, u157, u158, u159, u160, u161, u162, u163, u164, u165, u166, u167, u168, u169, u170, u171, u172, u173, u174, u175, u176, u177, u178, u179, u180, u181, u182, u183, u184, u185, u186, u187, u188, v189, v190, v191, v192, v193, v194, v195, v196, v197, v198, v199, v200, v201, v202, v203, v204, v205, v206, v207, v208, v209, v210, v211, v212, v213, v214, v215, v216, v217, v218, v219, v220, v221, v222, v223, v224, v225, u226, u227, u228, u229, u230, u231, u232, u233, u234, u235, u236, u237, u238, u239, u240, u241, u242, u243, u244, u245, u246, u247, u248, u249, u250, u251, u252, u253, u254, u255, u256, u257, u258, u259, u260, u261, u262, u263, u264, u265, u266, u267, u268, u269, u270, u271, u272, u273, u274, u275, u276, u277, u278, u279, u280, u281, u282, u283, u284, u285, u286, u287, u288, u289, u290, u291, u292], []⟩ wc) := hC
  clear hC
  obtain ⟨i5, h50, h51, h52, h53⟩ := info_parts Try.info5
  go_wp2
  go_loopg [23, 24, 25] R (fun gk vo vn vq wr => ∃ q : Nat, gk + q = R ∧ vq = .int .i64 q ∧ Hid (Two wr B vo vn (olds (runs.take q)) (news (runs.take q))) ∧ Hid (Below B w wr) ∧ B ≤ wr.heap.size)
  case atStart => exact ⟨0, by omega, rfl, Two.nil _ _, Below.refl _ _, by rw [HB.out]; exact Nat.le_refl _⟩
  case round =>
    obtain ⟨q, hq, rfl, HT, HBr, hBr⟩ := hrel
    obtain ⟨vo, rfl⟩ : ∃ vo, vo = u23 := ⟨_, rfl⟩
    obtain ⟨vn, rfl⟩ : ∃ vn, vn = u24 := ⟨_, rfl⟩
    have c4 := (HBr.out.cell (p := ⟨bh, 4, none⟩) hbh).trans hc4
    by_cases hlt : q < R
    · obtain ⟨r, hr⟩ : ∃ r, runs[q]? = some r := ⟨runs[q]'(by rw [← HL.out]; exact hlt), by simp⟩
      obtain ⟨gr, rfl, hgr, e1, e2⟩ := runs_at HR.out hr
      rw [← HB.out] at hgr
      have e1 := (HBr.out.cell (p := ⟨gr, q * 2, none⟩) hgr).trans e1
      have e2 := (HBr.out.cell (p := ⟨gr, q * 2 + 1, none⟩) hgr).trans e2
      have hop := HOps.out r (List.mem_of_getElem? hr)
      have o1 := olds_take hr
      have o2 := news_take hr
      have l1 := olds_le runs (q + 1)
      have l2 := news_le runs (q + 1)
      rw [o1] at l1
      rw [o2] at l2
      have l3 := olds_le runs q
      have l4 := news_le runs q
      obtain ⟨op, rs⟩ := r
      have hsz : rs.data.toList.length = rs.size := rfl
      simp only at e1 e2 hop o1 o2 l1 l2
      have HO1 : Hid (olds (runs.take (q + 1)) = olds (runs.take q) ++ if op = 43 then [] else rs.data.toList) := o1
      have HO2 : Hid (news (runs.take (q + 1)) = news (runs.take q) ++ if op = 45 then [] else rs.data.toList) := o2
      clear o1 o2 hr
      have iq : (q : Int) < R := by omega
      have hrz : rs.size ≤ 1048576 := by
        rcases hop with rfl | rfl | rfl
        · rw [if_neg (by decide), List.length_append, hsz] at l1; omega
        · rw [if_neg (by decide), List.length_append, hsz] at l1; omega
        · rw [if_neg (by decide), List.length_append, hsz] at l2; omega
      obtain ⟨LO, HLO⟩ : ∃ LO, Hid (LO = olds (runs.take q)) := ⟨_, rfl⟩
      obtain ⟨LN, HLN⟩ : ∃ LN, Hid (LN = news (runs.take q)) := ⟨_, rfl⟩
      rw [← HLO.out] at HT HO1 l3
      rw [← HLN.out] at HT HO2 l4
      clear l1 l2 hsz
      have HBa : ∀ o : Obj, Hid (Two (wr.alloc o) B vo vn LO LN) := fun o => ⟨HT.out.1.alloc o, HT.out.2.1.alloc o, HT.out.2.2⟩
      have HTa : Hid (Two (wr.alloc (Obj.cells #[Value.int IntKind.u8 op, Value.string rs] 38)) B vo vn LO LN) := HBa _
      clear HBa
      rcases hop with rfl | rfl | rfl
      · go_wp2_with (first
          | (at_builtin; refine wpList_append_src _ rfl (.tmp 204) (.tmp 206) 33 9 rfl B 5 i5 _ 1 1 Try.underlying33 h50 h51 h52 h53 rfl (by decide) vo _ _ rfl (by exact HTa.out.1) (.string rs) _ _ rfl (Src.ofString _ Try.underlying9 _) (by unfold maxLen; omega) (by omega) (by first | omega | (simp; omega)) ?_; intro vo1 w1 ho1 hg1 hat1; obtain ⟨t1, b1⟩ := HTa.out.old (x := rs.data.toList) (by simp; omega) (by exact ho1) hg1 hat1; have hz1 := b1.size; have hz1' : wr.heap.size + 1 ≤ w1.heap.size := (by simpa using hz1); have hcw : w1.cell? ⟨wr.heap.size, 1, none⟩ = some (.string rs) := hg1.cell (by simp) (fun e => by have := (World.ownsRow.lt HT.out.1 _ e.symm).2; simp only at this; omega))
          | (at_builtin; refine wpList_append_src _ rfl (.tmp 208) (.tmp 210) 33 9 rfl B 5 i5 _ 1 1 Try.underlying33 h50 h51 h52 h53 rfl (by decide) vn _ _ rfl (by exact t1.2.1) (.string rs) _ _ rfl (Src.ofString _ Try.underlying9 _) (by unfold maxLen; omega) (by omega) (by first | omega | (simp; omega)) ?_; intro vn1 w2 ho2 hg2 hat2))
        obtain ⟨t2, b2⟩ := t1.new (x := rs.data.toList) (by omega) (by exact ho2) hg2 hat2
        go_roundg (gk - 1)
        case measure => omega
        case rel => exact ⟨q + 1, by omega, by go_num, by unfold Hid; rw [HO1.out, HO2.out, if_neg (by decide), if_neg (by decide)]; exact t2, ((HBr.out.alloc hBr _).trans b1).trans b2, by have := b2.size; omega⟩
      · go_wp2_with ((at_builtin; refine wpList_append_src _ rfl (.tmp 215) (.tmp 217) 33 9 rfl B 5 i5 _ 1 1 Try.underlying33 h50 h51 h52 h53 rfl (by decide) vo _ _ rfl (by exact HTa.out.1) (.string rs) _ _ rfl (Src.ofString _ Try.underlying9 _) (by unfold maxLen; omega) (by omega) (by first | omega | (simp; omega)) ?_; intro vo1 w1 ho1 hg1 hat1))
        obtain ⟨t1, b1⟩ := HTa.out.old (x := rs.data.toList) (by simp; omega) (by exact ho1) hg1 hat1
        go_roundg (gk - 1)
        case measure => omega
        case rel => exact ⟨q + 1, by omega, by go_num, by unfold Hid; rw [HO1.out, HO2.out, if_neg (by decide), if_pos (by trivial), List.append_nil]; exact t1, (HBr.out.alloc hBr _).trans b1, by have := b1.size; simp at this; omega⟩
      · go_wp2_with ((at_builtin; refine wpList_append_src _ rfl (.tmp 222) (.tmp 224) 33 9 rfl B 5 i5 _ 1 1 Try.underlying33 h50 h51 h52 h53 rfl (by decide) vn _ _ rfl (by exact HTa.out.2.1) (.string rs) _ _ rfl (Src.ofString _ Try.underlying9 _) (by unfold maxLen; omega) (by omega) (by first | omega | (simp; omega)) ?_; intro vn1 w2 ho2 hg2 hat2))
        obtain ⟨t1, b1⟩ := HTa.out.new (x := rs.data.toList) (by simp; omega) (by exact ho2) hg2 hat2
        go_roundg (gk - 1)
        case measure => omega
        case rel => exact ⟨q + 1, by omega, by go_num, by unfold Hid; rw [HO1.out, HO2.out, if_pos (by trivial), if_neg (by decide), List.append_nil]; exact t1, (HBr.out.alloc hBr _).trans b1, by have := b1.size; simp at this; omega⟩
    · have hT := HT.out
      rw [List.take_of_length_le (by rw [← HL.out]; omega)] at hT
      go_wp2
      exact HC.out _ _ _ _ _ _ _ _ _ _ _ _ _ _ _ _ _ _ _ _ _ _ _ _ _ _ _ _ _ _ _ _ _ _ _ _ _ _ _ _ _ _ _ hT HBr.out
end Go.Proofs.Qxb6602907a
