import Derived.Test.Qxb6602907aN4
import Derived.Test.Qxb6602907aW6
namespace Go.Proofs.Qxb6602907a
open Go.RowKit
set_option linter.unusedVariables false
attribute [local go_sem ↓] Go.wp_at_zero Go.wp_at_succ

theorem m4_len (s1 : ByteArray) (z1 : List Int) (s2 : ByteArray) (z2 : List Int) : ∀ (f : Nat) (fl : List (Bool × Int × Int × Int)) (runs : List (Int × ByteArray)) (fc tc : Int), (m4 s1 z1 s2 z2 f fl runs fc tc).2.2.2.length ≤ fl.length
  | 0, fl, _, _, _ => by cases fl <;> simp [m4]
  | f + 1, [], _, _, _ => by simp [m4]
  | f + 1, (false, x) :: r, _, _, _ => by simp [m4]
  | f + 1, (true, x) :: r, runs, fc, tc => by
    rw [m4]
    exact Nat.le_trans (m4_len s1 z1 s2 z2 f _ _ _ _) (Nat.le_trans (m5_rest s1 z1 s2 z2 x.1 x r [] fc tc rfl) (by simp))
theorem m4_rest (s1 : ByteArray) (z1 : List Int) (s2 : ByteArray) (z2 : List Int) (f : Nat) (x : Int × Int × Int) (r : List (Bool × Int × Int × Int)) (runs : List (Int × ByteArray)) (fc tc : Int) : (m4 s1 z1 s2 z2 (f + 1) ((true, x) :: r) runs fc tc).2.2.2.length ≤ r.length := by
  rw [m4]
  exact Nat.le_trans (m4_len s1 z1 s2 z2 f _ _ _ _) (m5_rest s1 z1 s2 z2 x.1 x r [] fc tc rfl)
theorem m3_true {s1 : ByteArray} {z1 : List Int} {s2 : ByteArray} {z2 : List Int} {f : Nat} {x : Int × Int × Int} {r fl : List (Bool × Int × Int × Int)} {fd td fc tc : Int} {runs : List (Int × ByteArray)} (h : m4 s1 z1 s2 z2 (r.length + 1) ((true, x) :: r) [] 0 0 = (runs, fc, tc, fl)) :
    m3 s1 z1 s2 z2 (f + 1) ((true, x) :: r) fd td = ⟨bump fc fd, bump tc td, fc, tc, runs⟩ :: m3 s1 z1 s2 z2 f fl (fd + fc) (td + tc) := by
  rw [m3, h]

set_option maxHeartbeats 20000000 in
set_option maxRecDepth 8000 in
theorem mloop3 (code : Code) (hcode : Try.f10.body.bind (findBlock 4) = some code) (C : Act → World → Prop) (w : World) (s1 s2 : ByteArray) (g1 n1 g2 n2 n gs co cf ct B : Nat) (ao af at_ : Option Addr) (z1 z2 : List Int) (l : List (Int × Int × Int)) (sh : List Bool)
    (u4 u5 u6 u7 u8 u9 u10 u16 u17 u18 u19 u24 u25 u26 u27 u28 u29 u30 u31 u32 u33 u34 u35 u36 u37 u38 u39 u40 u41 u42 u43 u44 u45 u46 u47 u48 u49 u50 u51 u52 u53 u54 u55 u56 u57 u58 u59 u60 u61 u62 u63 u64 u65 u66 u67 u68 u69 u70 u71 u72 u73 u74 u75 u76 u77 u78 u79 u80 u81 u82 u83 u84 u85 u86 u87 u88 u89 u90 u91 u92 u93 u94 u95 u96 u97 u98 u99 u100 u101 u102 u103 u104 u105 u106 u107 u108 u109 u110 u111 u112 u113 u114 u115 u116 u117 u118 u119 u120 u121 u122 u123 u124 u125 u126 u127 u128 u129 u130 u131 u132 u133 u134 u135 u136 u137 u138 u139 u140 u141 u142 u143 u144 u145 u146 u147 u148 u149 u150 u151 u152 u153 u154 u155 u156 u157 u158 u159 u160 u161 u162 u163 u164 u165 u166 u167 u168 u169 u170 u171 u172 u173 u174 u175 u176 u177 u178 u179 u180 u181 u182 u183 u184 u185 u186 u187 u188 u189 u190 u191 u192 u193 : Value)
    (HB : Hid (B = w.heap.size)) (HT : Hid (Texts w B s1 s2 g1 n1 g2 n2 z1 z2)) (HR : Hid (Reads w B ao af at_ (some ⟨gs, 0, none⟩) l sh)) (HL : Hid (l.length = n)) (HLS : Hid (sh.length = n)) (hn : n ≤ 2097152) (hs1 : s1.size ≤ 1048576) (hs2 : s2.size ≤ 1048576) (hn1 : n1 ≤ 1048576) (hn2 : n2 ≤ 1048576) (HLO : Hid (∀ x ∈ l, LineOK ((n1 : Int) - 1) ((n2 : Int) - 1) x))
    (hC : ∀ (v21 v22 v23 v24 v25 v26 v27 v28 v29 v81 v82 v83 v84 v85 v86 v87 v88 v89 v90 v91 v92 v93 v94 v95 v96 v97 v98 v99 v100 v101 v102 v103 v104 v105 v106 v107 v108 v109 v110 v111 v112 v113 v114 v115 v116 v117 v118 v119 v120 v121 v122 v123 v124 v125 v126 v127 v128 v129 v130 v131 v132 v133 v134 v135 v136 v137 v138 v139 v140 v141 v142 v143 v144 v145 v146 v147 v148 v149 v150 v151 v152 v153 v154 v155 v156 v157 v158 v159 v160 v161 v162 v163 v164 v165 v166 v167 v168 v169 v170 v171 v172 v173 v174 v175 v176 v177 v178 v179 v180 v181 v182 v183 v184 v185 v186 v187 v188 v189 v190 v191 v192 vw : Value) (wc : World), HunksIn wc B vw (m3 s1 z1 s2 z2 n (sh.zip l) 0 0) → Below B w wc → C ⟨#[.string s1, .slice (some ⟨g1, 0, none⟩) n1 n1, .string s2, .slice (some ⟨g2, 0, none⟩) n2 n2, u4, u5, u6, u7, u8, u9, u10, .slice ao n co, .slice af n cf, .slice at_ n ct, .int .i64 n, .slice (some ⟨gs, 0, none⟩) n n, u16, u17, u18, u19, vw, v21, v22, v23, v24, v25, v26, v27, v28, v29, u30, u31, u32, u33, u34, u35, u36, u37, u38, u39, u40, u41, u42, u43, u44, u45, u46, u47, u48, u49, u50, u51, u52, u53, u54, u55, u56, u57, u58, u59, u60, u61, u62, u63, u64, u65, u66, u67, u68, u69, u70, u71, u72, u73, u74, u75, u76, u77, u78, u79, u80, v81, v82, v83, v84, v85, v86, v87, v88, v89, v90, v91, v92, v93, v94, v95, v96, v97, v98, v99, v100, v101, v102, v103, v104, v105, v106, v107, v108, v109, v110, v111, v112, v113, v114, v115, v116, v117, v118, v119, v120, v121, v122, v123, v124, v125, v126, v127, v128, v129, v130, v131, v132, v133, v134, v135, v136, v137, v138, v139, v140, v141, v142, v143, v144, v145, v146, v147, v148, v149, v150, v151, v152, v153, v154, v155, v156, v157, v158, v159, v160, v161, v162, v163, v164, v165, v166, v167, v168, v169, v170, v171, v172, v173, v174, v175, v176, v177, v178, v179, v180, v181, v182, v183, v184, v185, v186, v187, v188, v189, v190, v191, v192, u193], []⟩ wc) :
    Code.wp Try.prog code (OnlyN C) ⟨#[.string s1, .slice (some ⟨g1, 0, none⟩) n1 n1, .string s2, .slice (some ⟨g2, 0, none⟩) n2 n2, u4, u5, u6, u7, u8, u9, u10, .slice ao n co, .slice af n cf, .slice at_ n ct, .int .i64 n, .slice (some ⟨gs, 0, none⟩) n n, u16, u17, u18, u19, .slice none 0 0, .int .i64 0, .int .i64 0, .int .i64 0, u24, u25, u26, u27, u28, u29, u30, u31, u32, u33, u34, u35, u36, u37, u38, u39, u40, u41, u42, u43, u44, u45, u46, u47, u48, u49, u50, u51, u52, u53, u54, u55, u56, u57, u58, u59, u60, u61, u62, u63, u64, u65, u66, u67, u68, u69, u70, u71, u72, u73, u74, u75, u76, u77, u78, u79, u80, u81, u82, u83, u84, u85, u86, u87, u88, u89, u90, u91, u92, u93, u94, u95, u96, u97, u98, u99, u100, u101, u102, u103, u104, u105, u106, u107, u108, u109, u110, u111, u112, u113, u114, u115, u116, u117, u118, u119, u120, u121, u122, u123, u124, u125, u126, u127, u128, u129, u130, u131, u132, u133, u134, u135, u136, u137, u138, u139, u140, u141, u142, u143, u144, u145, u146, u147, u148, u149, u150, u151, u152, u153, u154, u155, u156, u157, u158, u159, u160, u161, u162, u163, u164, u165, u166, u167, u168, u169, u170, u171, u172, u173, u174, u175, u176, u177, u178, u179, u180, u181, u182, u183, u184, u185, u186, u187, u188, u189, u190, u191, u192, u193], []⟩ w := by
  have hc0 := Option.some.inj (show some _ = some code from hcode)
  subst hc0
  clear hcode
  have HC : Hid (∀ (v21 v22 v23 v24 v25 v26 v27 v28 v29 v81 v82 v83 v84 v85 v86 v87 v88 v89 v90 v91 v92 v93 v94 v95 v96 v97 v98 v99 v100 v101 v102 v103 v104 v105 v106 v107 v108 v109 v110 v111 v112 v113 v114 v115 v116 v117 v118 v119 v120 v121 v122 v123 v124 v125 v126 v127 v128 v129 v130 v131 v132 v133 v134 v135 v136 v137 v138 v139 v140 v141 v142 v143 v144 v145 v146 v147 v148 v149 v150 v151 v152 v153 v154 v155 v156 v157 v158 v159 v160 v161 v162 v163 v164 v165 v166 v167 v168 v169 v170 v171 v172 v173 v174 v175 v176 v177 v178 v179 v180 v181 v182 v183 v184 v185 v186 v187 v188 v189 v190 v191 v192 vw : Value) (wc : World), HunksIn wc B vw (m3 s1 z1 s2 z2 n (sh.zip l) 0 0) → Below B w wc → C ⟨#[.string s1, .slice (some ⟨g1, 0, none⟩) n1 n1, .string s2, .slice (some ⟨g2, 0, none⟩) n2 n2, u4, u5, u6, u7, u8, u9, u10, .slice ao n co, .slice af n cf, .slice at_ n ct, .int .i64 n, .slice (some ⟨gs, 0, none⟩) n n, u16, u17, u18, u19, vw, v21, v22, v23, v24, v25, v26, v27, v28, v29, u30, u31, u32, u33, u34, u35, u36, u37, u38, u39, u40, u41, u42, u43, u44, u45, u46, u47, u48, u49, u50, u51, u52, u53, u54, u55, u56, u57, u58, u59, u60, u61, u62, u63, u64, u65, u66, u67, u68, u69, u70, u71, u72, u73, u74, u75, u76, u77, u78, u79, u80, v81, v82, v83, v84, v85, v86, v87, v88, v89, v90, v91, v92, v93, v94, v95, v96, v97, v98, v99, v100, v101, v102, v103, v104, v105, v106, v107, v108, v109, v110, v111, v112, v113, v114, v115, v116, v117, v118, v119, v120, v121, v122, v123, v124, v125, v126, v127, v128, v129, v130, v131, v132, v133, v134, v135, v136, v137, v138, v139, v140, v141, v142, v143, v144, v145, v146, v147, v148, v149, v150, v151, v152, v153, v154, v155, v156, v157, v158, v159, v160, v161, v162, v163, v164, v165, v166, v167, v168, v169, v170, v171, v172, v173, v174, v175, v176, v177, v178, v179, v180, v181, v182, v183, v184, v185, v186, v187, v188, v189, v190, v191, v192, u193], []⟩ wc) := hC
  clear hC
  obtain ⟨i36, hi, hz0, hz1, hz2⟩ := info_parts Try.info36
  go_wp2
  go_loopg [20, 21, 22, 23] n (fun gk vw vf vt vp wr => ∃ (p : Nat) (fd td : Int) (dn : List Hk) (f : Nat), gk + p = n ∧ vp = .int .i64 p ∧ vf = .int .i64 fd ∧ vt = .int .i64 td ∧ 0 ≤ fd ∧ fd ≤ p ∧ 0 ≤ td ∧ td ≤ p ∧ n ≤ f + p ∧ dn.length ≤ p ∧ Hid (HunksIn wr B vw dn) ∧ Hid (m3 s1 z1 s2 z2 n (sh.zip l) 0 0 = dn ++ m3 s1 z1 s2 z2 f ((sh.zip l).drop p) fd td) ∧ Hid (Below B w wr) ∧ B ≤ wr.heap.size)
  case atStart => exact ⟨0, 0, 0, [], n, by omega, rfl, rfl, rfl, by omega, by omega, by omega, by omega, by omega, by simp, HunksIn.nil _ _, rfl, Below.refl _ _, by rw [HB.out]; exact Nat.le_refl _⟩
  case round =>
    obtain ⟨p, fd, td, dn, f, hk, rfl, rfl, rfl, hf1, hf2, ht1, ht2, hff, hdn, HH, HM, HBr, hBr⟩ := hrel
    obtain ⟨G, rfl⟩ : ∃ G, G = gk := ⟨_, rfl⟩
    obtain ⟨vw, rfl⟩ : ∃ vw, vw = u20 := ⟨_, rfl⟩
    by_cases hlt : p < n
    · obtain ⟨x, hx⟩ : ∃ x, l[p]? = some x := ⟨l[p]'(by rw [HL.out]; exact hlt), by simp⟩
      obtain ⟨b, hb⟩ : ∃ b, sh[p]? = some b := ⟨sh[p]'(by rw [HLS.out]; exact hlt), by simp⟩
      have HFL : Hid ((sh.zip l).drop p = (b, x) :: (sh.zip l).drop (p + 1)) := drop_at (zip_at hb hx)
      have HRr : Hid (Reads wr B ao af at_ (some ⟨gs, 0, none⟩) l sh) := HR.out.below HBr.out
      obtain ⟨gs', e, hgs, c3⟩ := HRr.out.shs p _ (boCells_at hb)
      have e' : gs = gs' := by simpa using e
      subst e'
      clear e hx hb
      have ip : (p : Int) < n := by omega
      obtain ⟨f, rfl⟩ : ∃ f', f = f' + 1 := ⟨f - 1, by omega⟩
      cases b with
      | false =>
        have h := HM.out
        rw [HFL.out, m3] at h
        have HM' : Hid _ := h
        clear h HM
        go_wp2
        go_roundg (G - 1)
        case measure => omega
        case rel => exact ⟨p + 1, fd + 1, td + 1, dn, f, by omega, by go_num, by go_num, by go_num, by omega, by omega, by omega, by omega, by omega, by omega, HH, HM', HBr, hBr⟩
      | true =>
        obtain ⟨B4, HB4⟩ : ∃ B4, Hid (B4 = wr.heap.size) := ⟨_, rfl⟩
        have hB4 : B ≤ B4 := by rw [HB4.out]; exact hBr
        go_upto_block 6 with fail
        refine wp_onlyN (mloop4 _ (by rfl) _ wr s1 s2 g1 n1 g2 n2 n gs co cf ct B4 p (((sh.zip l).drop (p + 1)).length + 1) ao af at_ z1 z2 l sh _ _ _ _ _ _ _ _ _ _ _ _ _ _ _ _ _ _ _ _ _ _ _ _ _ _ _ _ _ _ _ _ _ _ _ _ _ _ _ _ _ _ _ _ _ _ _ _ _ _ _ _ _ _ _ _ _ _ _ _ _ _ _ _ _ _ _ _ _ _ _ _ _ _ _ _ _ _ _ _ _ _ _ _ _ _ _ _ _ _ _ _ _ _ _ _ _ _ _ _ _ _ _ _ _ _ _ _ _ _ _ _ _ _ _ _ _ _ _ _ _ _ _ _ _ _ _ _ _ _ _ _ _ _ _ _ _ _ _ _ _ _ _ _ _ _ _ _ _ _ _ _ _ _ _ _ _ _ _ _ _ _ _ _ _ _ _ _ _ _ _ _ _ _ _ _ _ _ _ _ _ HB4 (HT.out.below HBr.out (Nat.le_refl _) |>.below (Below.refl B4 _) hB4) (HRr.out.mono hB4) HL HLS hn hs1 hs2 hn1 hn2 HLO (by omega) (by rw [List.length_drop, List.length_zip, HL.out, HLS.out]; omega) ?_)
        intro _ _ _ _ _ _ _ _ _ _ _ _ _ _ _ _ _ _ _ _ _ _ _ _ _ _ _ _ _ _ _ _ _ _ _ _ _ _ _ _ _ _ _ _ _ _ _ _ _ _ _ _ _ _ _ _ _ _ _ _ _ _ _ _ _ _ _ _ _ _ _ _ vr p' fc tc runs w4 hp1 hp2 q1 q2 q3 q4 hrl hRn hm4 hB4w
        have HM4 := hm4
        rw [HFL.out] at HM4
        have hpp : p < p' := by
          have h2 := m4_rest s1 z1 s2 z2 ((sh.zip l).drop (p + 1)).length x ((sh.zip l).drop (p + 1)) [] 0 0
          rw [HM4] at h2
          simp only [List.length_drop, List.length_zip, HL.out, HLS.out] at h2
          omega
        have HMn : Hid (m3 s1 z1 s2 z2 n (sh.zip l) 0 0 = (dn ++ [⟨bump fc fd, bump tc td, fc, tc, runs⟩]) ++ m3 s1 z1 s2 z2 f ((sh.zip l).drop p') (fd + fc) (td + tc)) := by
          have h := HM.out
          rw [HFL.out, m3_true HM4] at h
          unfold Hid
          rw [h]
          simp
        have HRn : Hid (RunsIn w4 B4 vr runs) := hRn
        have HB4w : Hid (Below B4 wr w4) := hB4w
        have hz4 : wr.heap.size ≤ w4.heap.size := hB4w.size
        clear hm4 HM4 HM c3 hB4w
        obtain ⟨ar, nr, cr, rfl⟩ := owns_shape hRn
        clear hRn
        go_upto_if 172 with fail
        go_cut [] from 173 to 176 (fun wc => HVar wc w4.heap.size (bump fc fd) td fc tc (.slice ar nr cr) ∧ Hid (Below w4.heap.size w4 wc) ∧ wc.heap.size = w4.heap.size + 1)
        case first =>
          by_cases hI : 0 < fc
          · have HU : Hid (bump fc fd = fd + 1) := if_pos (by omega)
            go_wp2
            go_meet
            case rel => rw [HU.out]; exact ⟨hvar_new _ _ _ _ _ _, (Below.refl _ _).alloc (Nat.le_refl _) _, by simp⟩
          · have HU : Hid (bump fc fd = fd) := if_neg (by omega)
            go_wp2
            go_meet
            case rel => rw [HU.out]; exact ⟨hvar_new _ _ _ _ _ _, (Below.refl _ _).alloc (Nat.le_refl _) _, by simp⟩
        case rest =>
          obtain ⟨⟨h0, h1, h2, h3, h4, hfz⟩, HBf, hzf⟩ := hcut
          obtain ⟨wf, rfl⟩ : ∃ wf, wf = wc := ⟨_, rfl⟩
          obtain ⟨g, HG⟩ : ∃ g, Hid (g = w4.heap.size) := ⟨_, rfl⟩
          rw [← HG.out] at h0 h1 h2 h3 h4 hfz hzf ⊢
          go_upto_if 178 with fail
          go_cut [] from 179 to 182 (fun wc => HVar wc g (bump fc fd) (bump tc td) fc tc (.slice ar nr cr) ∧ Hid (Below w4.heap.size w4 wc) ∧ wc.heap.size = g + 1)
          case first =>
            by_cases hI : 0 < tc
            · have HU : Hid (bump tc td = td + 1) := if_pos (by omega)
              go_wp2
              go_meet
              case rel => rw [HU.out]; exact ⟨HVar.set1 ⟨h0, h1, h2, h3, h4, hfz⟩ _, HBf.out.setCell (by rw [HG.out]; exact Nat.le_refl _) _, by simpa using hzf⟩
            · have HU : Hid (bump tc td = td) := if_neg (by omega)
              go_wp2
              go_meet
              case rel => rw [HU.out]; exact ⟨⟨h0, h1, h2, h3, h4, hfz⟩, HBf.out, hzf⟩
          case rest =>
            clear h0 h1 h2 h3 h4 hfz HBf hzf
            obtain ⟨⟨h0, h1, h2, h3, h4, hfz⟩, HBf, hzf⟩ := hcut
            obtain ⟨wm, rfl⟩ : ∃ wm, wm = wc := ⟨_, rfl⟩
            have hgm : g < wm.heap.size := by omega
            clear hzf
            have hg4 : B4 ≤ g := by rw [HG.out, HB4.out]; exact hz4
            have HBm : Hid (Below B4 wr wm) := HB4w.out.trans (HBf.out.mono (by rw [← HG.out]; exact hg4))
            have HRm : Hid (RunsIn wm B4 (.slice ar nr cr) runs) := owns_below HRn.out HBf.out (fun k hk => (World.ownsRow.lt HRn.out k hk).2)
            obtain ⟨rvs, hrl2, hown, hrr⟩ := HH.out.below HBm.out (by rw [HB4.out]; exact Nat.le_refl _)
            have HOW : Hid (wm.ownsRow B 36 5 vw dn.length (hksCells dn rvs)) := hown
            have HRR : Hid (∀ (i : Nat) (h : Hk) (rv : Value), dn[i]? = some h → rvs[i]? = some rv → RunsIn wm B rv h.runs) := hrr
            have HL2 : Hid (rvs.length = dn.length) := hrl2
            clear hown hrr hrl2
            obtain ⟨FR, HFR⟩ : ∃ FR, Hid (FR = bump fc fd) := ⟨_, rfl⟩
            obtain ⟨TW, HTW⟩ : ∃ TW, Hid (TW = bump tc td) := ⟨_, rfl⟩
            rw [← HFR.out, ← HTW.out] at HMn
            rw [← HFR.out] at h0
            rw [← HTW.out] at h1
            go_wp2_with (at_builtin; refine wpList_append_src _ rfl (.tmp 183) (.tmp 185) _ _ rfl B 36 i36 _ 5 56 Try.underlying27 hi hz0 hz1 hz2 rfl (by decide) vw _ _ rfl (HOW.out.alloc _) _ 1 [.int .i64 FR, .int .i64 TW, .int .i64 fc, .int .i64 tc, .slice ar nr cr] rfl (Src.ofSlice _ Try.underlying27 ⟨wm.heap.size, 0, none⟩ 1 1 _ rfl (World.news_of_block (cs := #[.int .i64 FR, .int .i64 TW, .int .i64 fc, .int .i64 tc, .slice ar nr cr]) (heap_alloc_new wm _)) (by simp [Value.oneCell'])) (by unfold maxLen; omega) (by omega) (by simp; omega) ?_; intro v' w6 ho6 hg6 hat6)
            go_roundg (n - p')
            case measure => omega
            case rel =>
              refine ⟨p', fd + fc, td + tc, dn ++ [⟨FR, TW, fc, tc, runs⟩], f, by omega, rfl, rfl, rfl, by omega, by omega, by omega, by omega, by omega, by rw [List.length_append]; simp only [List.length_cons, List.length_nil]; omega, ?_, HMn, ?_, ?_⟩
              · exact hunks_push HL2.out HOW.out HRR.out (owns_base HRm.out hB4) ((World.grownBy_alloc wm _ _).trans hg6) ho6
              · exact ((HBr.out.trans (HBm.out.mono hB4)).alloc (by omega) _).grown hg6 (by simp; omega) (fun k hk => (World.ownsRow.lt HOW.out k hk).1)
              · have := hg6.size; simp at this; omega
    · have e : (sh.zip l).drop p = [] := List.drop_eq_nil_of_le (by rw [List.length_zip, HL.out, HLS.out]; omega)
      have h := HM.out
      rw [e] at h
      have e0 : m3 s1 z1 s2 z2 f [] fd td = [] := by cases f <;> rfl
      rw [e0, List.append_nil] at h
      have hH := HH.out
      rw [← h] at hH
      go_wp2
      exact HC.out _ _ _ _ _ _ _ _ _ _ _ _ _ _ _ _ _ _ _ _ _ _ _ _ _ _ _ _ _ _ _ _ _ _ _ _ _ _ _ _ _ _ _ _ _ _ _ _ _ _ _ _ _ _ _ _ _ _ _ _ _ _ _ _ _ _ _ _ _ _ _ _ _ _ _ _ _ _ _ _ _ _ _ _ _ _ _ _ _ _ _ _ _ _ _ _ _ _ _ _ _ _ _ _ _ _ _ _ _ _ _ _ _ _ _ _ _ _ _ _ _ _ _ hH HBr.out
end Go.Proofs.Qxb6602907a
