import Derived.Test.Qxb6602907aN5
namespace Go.Proofs.Qxb6602907a
open Go.RowKit
set_option linter.unusedVariables false
attribute [local go_sem ↓] Go.wp_at_zero Go.wp_at_succ

theorem m4_stop (s1 : ByteArray) (z1 : List Int) (s2 : ByteArray) (z2 : List Int) (f : Nat) (fl : List (Bool × Int × Int × Int)) (runs : List (Int × ByteArray)) (fc tc : Int) (h : ∀ x r, fl ≠ (true, x) :: r) : m4 s1 z1 s2 z2 f fl runs fc tc = (runs, fc, tc, fl) := by
  unfold m4
  split
  · rename_i x r; exact absurd rfl (h x r)
  · rfl
theorem mk_size (l : List UInt8) : (⟨l.toArray⟩ : ByteArray).size = l.length := by simp [ByteArray.size]

theorem m5_len (s1 : ByteArray) (z1 : List Int) (s2 : ByteArray) (z2 : List Int) (op : Int) : ∀ (fl : List (Bool × Int × Int × Int)) (buf : List UInt8) (fc tc : Int), (m5 s1 z1 s2 z2 op fl buf fc tc).2.2.2.length ≤ fl.length
  | [], _, _, _ => by simp [m5]
  | (b, x) :: r, buf, fc, tc => by
    rw [m5]
    split
    · have := m5_len s1 z1 s2 z2 op r (buf ++ lineOf s1 z1 s2 z2 x) (if op = 43 then fc else fc + 1) (if op = 45 then tc else tc + 1)
      simp only [List.length_cons]; omega
    · simp
theorem m5_rest (s1 : ByteArray) (z1 : List Int) (s2 : ByteArray) (z2 : List Int) (op : Int) (x : Int × Int × Int) (r : List (Bool × Int × Int × Int)) (buf : List UInt8) (fc tc : Int) (h : x.1 = op) : (m5 s1 z1 s2 z2 op ((true, x) :: r) buf fc tc).2.2.2.length ≤ r.length := by
  rw [m5, if_pos ⟨rfl, h⟩]
  exact m5_len _ _ _ _ _ _ _ _ _

set_option maxHeartbeats 20000000 in
set_option maxRecDepth 8000 in
theorem mloop4 (code : Code) (hcode : Try.f10.body.bind (findBlock 6) = some code) (C : Act → World → Prop) (w : World) (s1 s2 : ByteArray) (g1 n1 g2 n2 n gs co cf ct B p0 f0 : Nat) (ao af at_ : Option Addr) (z1 z2 : List Int) (l : List (Int × Int × Int)) (sh : List Bool)
    (u4 u5 u6 u7 u8 u9 u10 u16 u17 u18 u19 u20 u21 u22 u27 u28 u29 u30 u31 u32 u33 u34 u35 u36 u37 u38 u39 u40 u41 u42 u43 u44 u45 u46 u47 u48 u49 u50 u51 u52 u53 u54 u55 u56 u57 u58 u59 u60 u61 u62 u63 u64 u65 u66 u67 u68 u69 u70 u71 u72 u73 u74 u75 u76 u77 u78 u79 u80 u81 u82 u83 u84 u85 u86 u87 u88 u89 u90 u91 u92 u93 u94 u95 u96 u97 u98 u99 u100 u101 u102 u103 u104 u105 u106 u107 u108 u109 u110 u111 u112 u113 u114 u115 u116 u117 u118 u119 u120 u121 u122 u123 u124 u125 u126 u127 u128 u129 u130 u131 u132 u133 u134 u135 u136 u137 u138 u139 u140 u141 u142 u143 u144 u145 u146 u147 u148 u149 u150 u151 u152 u153 u154 u155 u156 u157 u158 u159 u160 u161 u162 u163 u164 u165 u166 u167 u168 u169 u170 u171 u172 u173 u174 u175 u176 u177 u178 u179 u180 u181 u182 u183 u184 u185 u186 u187 u188 u189 u190 u191 u192 u193 : Value)
    (HB : Hid (B = w.heap.size)) (HT : Hid (Texts w B s1 s2 g1 n1 g2 n2 z1 z2)) (HR : Hid (Reads w B ao af at_ (some ⟨gs, 0, none⟩) l sh)) (HL : Hid (l.length = n)) (HLS : Hid (sh.length = n)) (hn : n ≤ 2097152) (hs1 : s1.size ≤ 1048576) (hs2 : s2.size ≤ 1048576) (hn1 : n1 ≤ 1048576) (hn2 : n2 ≤ 1048576) (HLO : Hid (∀ x ∈ l, LineOK ((n1 : Int) - 1) ((n2 : Int) - 1) x)) (hp0 : p0 ≤ n) (hf0 : n ≤ f0 + p0)
    (hC : ∀ (v27 v28 v95 v96 v97 v98 v99 v100 v101 v102 v103 v104 v105 v106 v107 v108 v109 v110 v111 v112 v113 v114 v115 v116 v117 v118 v119 v120 v121 v122 v123 v124 v125 v126 v127 v128 v129 v130 v131 v132 v133 v134 v135 v136 v137 v138 v139 v140 v141 v142 v143 v144 v145 v146 v147 v148 v149 v150 v151 v152 v153 v154 v155 v156 v157 v158 v159 v160 v161 v162 v163 v164 vr : Value) (p : Nat) (fc tc : Int) (runs : List (Int × ByteArray)) (wc : World), p0 ≤ p → p ≤ n → 0 ≤ fc → fc ≤ p - p0 → 0 ≤ tc → tc ≤ p - p0 → runs.length ≤ p → RunsIn wc B vr runs → m4 s1 z1 s2 z2 f0 ((sh.zip l).drop p0) [] 0 0 = (runs, fc, tc, (sh.zip l).drop p) → Below B w wc → C ⟨#[.string s1, .slice (some ⟨g1, 0, none⟩) n1 n1, .string s2, .slice (some ⟨g2, 0, none⟩) n2 n2, u4, u5, u6, u7, u8, u9, u10, .slice ao n co, .slice af n cf, .slice at_ n ct, .int .i64 n, .slice (some ⟨gs, 0, none⟩) n n, u16, u17, u18, u19, u20, u21, u22, .int .i64 (p : Int), .int .i64 fc, .int .i64 tc, vr, v27, v28, u29, u30, u31, u32, u33, u34, u35, u36, u37, u38, u39, u40, u41, u42, u43, u44, u45, u46, u47, u48, u49, u50, u51, u52, u53, u54, u55, u56, u57, u58, u59, u60, u61, u62, u63, u64, u65, u66, u67, u68, u69, u70, u71, u72, u73, u74, u75, u76, u77, u78, u79, u80, u81, u82, u83, u84, u85, u86, u87, u88, u89, u90, u91, u92, u93, u94, v95, v96, v97, v98, v99, v100, v101, v102, v103, v104, v105, v106, v107, v108, v109, v110, v111, v112, v113, v114, v115, v116, v117, v118, v119, v120, v121, v122, v123, v124, v125, v126, v127, v128, v129, v130, v131, v132, v133, v134, v135, v136, v137, v138, v139, v140, v141, v142, v143, v144, v145, v146, v147, v148, v149, v150, v151, v152, v153, v154, v155, v156, v157, v158, v159, v160, v161, v162, v163, v164, u165, u166, u167, u168, u169, u170, u171, u172, u173, u174, u175, u176, u177, u178, u179, u180, u181, u182, u183, u184, u185, u186, u187, u188, u189, u190, u191, u192, u193], []⟩ wc) :
    Code.wp Try.prog code (OnlyN C) ⟨#[.string s1, .slice (some ⟨g1, 0, none⟩) n1 n1, .string s2, .slice (some ⟨g2, 0, none⟩) n2 n2, u4, u5, u6, u7, u8, u9, u10, .slice ao n co, .slice af n cf, .slice at_ n ct, .int .i64 n, .slice (some ⟨gs, 0, none⟩) n n, u16, u17, u18, u19, u20, u21, u22, .int .i64 p0, .int .i64 0, .int .i64 0, .slice none 0 0, u27, u28, u29, u30, u31, u32, u33, u34, u35, u36, u37, u38, u39, u40, u41, u42, u43, u44, u45, u46, u47, u48, u49, u50, u51, u52, u53, u54, u55, u56, u57, u58, u59, u60, u61, u62, u63, u64, u65, u66, u67, u68, u69, u70, u71, u72, u73, u74, u75, u76, u77, u78, u79, u80, u81, u82, u83, u84, u85, u86, u87, u88, u89, u90, u91, u92, u93, u94, u95, u96, u97, u98, u99, u100, u101, u102, u103, u104, u105, u106, u107, u108, u109, u110, u111, u112, u113, u114, u115, u116, u117, u118, u119, u120, u121, u122, u123, u124, u125, u126, u127, u128, u129, u130, u131, u132, u133, u134, u135, u136, u137, u138, u139, u140, u141, u142, u143, u144, u145, u146, u147, u148, u149, u150, u151, u152, u153, u154, u155, u156, u157, u158, u159, u160, u161, u162, u163, u164, u165, u166, u167, u168, u169, u170, u171, u172, u173, u174, u175, u176, u177, u178, u179, u180, u181, u182, u183, u184, u185, u186, u187, u188, u189, u190, u191, u192, u193], []⟩ w := by
  have hc0 := Option.some.inj (show some _ = some code from hcode)
  subst hc0
  clear hcode
  have HC : Hid (∀ (v27 v28 v95 v96 v97 v98 v99 v100 v101 v102 v103 v104 v105 v106 v107 v108 v109 v110 v111 v112 v113 v114 v115 v116 v117 v118 v119 v120 v121 v122 v123 v124 v125 v126 v127 v128 v129 v130 v131 v132 v133 v134 v135 v136 v137 v138 v139 v140 v141 v142 v143 v144 v145 v146 v147 v148 v149 v150 v151 v152 v153 v154 v155 v156 v157 v158 v159 v160 v161 v162 v163 v164 vr : Value) (p : Nat) (fc tc : Int) (runs : List (Int × ByteArray)) (wc : World), p0 ≤ p → p ≤ n → 0 ≤ fc → fc ≤ p - p0 → 0 ≤ tc → tc ≤ p - p0 → runs.length ≤ p → RunsIn wc B vr runs → m4 s1 z1 s2 z2 f0 ((sh.zip l).drop p0) [] 0 0 = (runs, fc, tc, (sh.zip l).drop p) → Below B w wc → C ⟨#[.string s1, .slice (some ⟨g1, 0, none⟩) n1 n1, .string s2, .slice (some ⟨g2, 0, none⟩) n2 n2, u4, u5, u6, u7, u8, u9, u10, .slice ao n co, .slice af n cf, .slice at_ n ct, .int .i64 n, .slice (some ⟨gs, 0, none⟩) n n, u16, u17, u18, u19, u20, u21, u22, .int .i64 (p : Int), .int .i64 fc, .int .i64 tc, vr, v27, v28, u29, u30, u31, u32, u33, u34, u35, u36, u37, u38, u39, u40, u41, u42, u43, u44, u45, u46, u47, u48, u49, u50, u51, u52, u53, u54, u55, u56, u57, u58, u59, u60, u61, u62, u63, u64, u65, u66, u67, u68, u69, u70, u71, u72, u73, u74, u75, u76, u77, u78, u79, u80, u81, u82, u83, u84, u85, u86, u87, u88, u89, u90, u91, u92, u93, u94, v95, v96, v97, v98, v99, v100, v101, v102, v103, v104, v105, v106, v107, v108, v109, v110, v111, v112, v113, v114, v115, v116, v117, v118, v119, v120, v121, v122, v123, v124, v125, v126, v127, v128, v129, v130, v131, v132, v133, v134, v135, v136, v137, v138, v139, v140, v141, v142, v143, v144, v145, v146, v147, v148, v149, v150, v151, v152, v153, v154, v155, v156, v157, v158, v159, v160, v161, v162, v163, v164, u165, u166, u167, u168, u169, u170, u171, u172, u173, u174, u175, u176, u177, u178, u179, u180, u181, u182, u183, u184, u185, u186, u187, u188, u189, u190, u191, u192, u193], []⟩ wc) := hC
  clear hC
  obtain ⟨i38, h380, h381, h382, h383⟩ := info_parts Try.info38
  go_wp2
  go_loopg [23, 24, 25, 26] (n - p0) (fun gk vp vf vt vr wr => ∃ (p : Nat) (fc tc : Int) (runs : List (Int × ByteArray)) (f : Nat), gk + p = n ∧ p0 ≤ p ∧ vp = .int .i64 p ∧ vf = .int .i64 fc ∧ vt = .int .i64 tc ∧ 0 ≤ fc ∧ fc ≤ p - p0 ∧ 0 ≤ tc ∧ tc ≤ p - p0 ∧ n ≤ f + p ∧ runs.length ≤ p ∧ Hid (RunsIn wr B vr runs) ∧ Hid (m4 s1 z1 s2 z2 f0 ((sh.zip l).drop p0) [] 0 0 = m4 s1 z1 s2 z2 f ((sh.zip l).drop p) runs fc tc) ∧ Hid (Below B w wr) ∧ B ≤ wr.heap.size)
  case atStart => exact ⟨p0, 0, 0, [], f0, by omega, by omega, rfl, rfl, rfl, by omega, by omega, by omega, by omega, by omega, by simp, World.ownsRow_nil _ _ _ _, rfl, Below.refl _ _, by rw [HB.out]; exact Nat.le_refl _⟩
  case round =>
    obtain ⟨p, fc, tc, runs, f, hk, hp, rfl, rfl, rfl, hf1, hf2, ht1, ht2, hff, hrl, HRn, HM, HBr, hBr⟩ := hrel
    obtain ⟨G, rfl⟩ : ∃ G, G = gk := ⟨_, rfl⟩
    obtain ⟨vr, rfl⟩ : ∃ vr, vr = u26 := ⟨_, rfl⟩
    by_cases hlt : p < n
    · obtain ⟨x, hx⟩ : ∃ x, l[p]? = some x := ⟨l[p]'(by rw [HL.out]; exact hlt), by simp⟩
      obtain ⟨b, hb⟩ : ∃ b, sh[p]? = some b := ⟨sh[p]'(by rw [HLS.out]; exact hlt), by simp⟩
      have HFL : Hid ((sh.zip l).drop p = (b, x) :: (sh.zip l).drop (p + 1)) := drop_at (zip_at hb hx)
      have HRr : Hid (Reads wr B ao af at_ (some ⟨gs, 0, none⟩) l sh) := HR.out.below HBr.out
      have HTr : Hid (Texts wr B s1 s2 g1 n1 g2 n2 z1 z2) := HT.out.below HBr.out (Nat.le_refl _)
      obtain ⟨go, rfl, hgo, c0⟩ := HRr.out.ops p _ (opCells_at hx)
      obtain ⟨gs', e, hgs, c3⟩ := HRr.out.shs p _ (boCells_at hb)
      have e' : gs = gs' := by simpa using e
      subst e'
      clear e hx hb
      obtain ⟨xo, fi, ti⟩ := x
      simp only at c0 c3
      have ip : (p : Int) < n := by omega
      cases b with
      | false =>
        have HM' : Hid _ := HM.out.trans (m4_stop _ _ _ _ _ _ _ _ _ (by rw [HFL.out]; intro x r h; simp at h))
        clear HM
        go_wp2
        exact HC.out _ _ _ _ _ _ _ _ _ _ _ _ _ _ _ _ _ _ _ _ _ _ _ _ _ _ _ _ _ _ _ _ _ _ _ _ _ _ _ _ _ _ _ _ _ _ _ _ _ _ _ _ _ _ _ _ _ _ _ _ _ _ _ _ _ _ _ _ _ _ _ _ _ p fc tc runs _ (by omega) (by omega) hf1 hf2 ht1 ht2 hrl HRn.out HM'.out HBr.out
      | true =>
        obtain ⟨B5, HB5⟩ : ∃ B5, Hid (B5 = wr.heap.size) := ⟨_, rfl⟩
        have hB5 : B ≤ B5 := by rw [HB5.out]; exact hBr
        go_upto_block 8 with fail
        refine wp_onlyN (mloop5 _ (by rfl) _ wr s1 s2 g1 n1 g2 n2 n gs co cf ct B5 p (some ⟨go, 0, none⟩) af at_ z1 z2 l sh xo fc tc _ _ _ _ _ _ _ _ _ _ _ _ _ _ _ _ _ _ _ _ _ _ _ _ _ _ _ _ _ _ _ _ _ _ _ _ _ _ _ _ _ _ _ _ _ _ _ _ _ _ _ _ _ _ _ _ _ _ _ _ _ _ _ _ _ _ _ _ _ _ _ _ _ _ _ _ _ _ _ _ _ _ _ _ _ _ _ _ _ _ _ _ _ _ _ _ _ _ _ _ _ _ _ _ _ _ _ _ _ _ _ _ _ _ _ _ _ _ _ _ _ _ _ _ _ _ _ _ _ _ _ _ _ _ _ _ _ _ _ _ _ _ _ _ _ _ _ _ _ _ _ _ _ _ _ _ _ _ _ _ _ _ _ _ _ _ _ _ _ _ _ _ _ _ _ _ _ _ _ _ HB5 (HT.out.below (HBr.out.mono (Nat.le_refl B)) (Nat.le_refl _) |>.below (Below.refl B5 _) hB5) (HRr.out.mono hB5) HL HLS hn hs1 hs2 hn1 hn2 HLO (by omega) (by omega) (by omega) ?_)
        intro _ _ _ _ _ _ _ _ _ _ _ _ _ _ _ _ _ _ _ _ _ _ _ _ _ _ _ _ _ _ _ _ _ _ _ _ _ _ _ _ _ _ _ _ _ _ _ vb p' fc' tc' buf w5 hp1 hp2 q1 q2 q3 q4 hbl hBb hm5 hB5w
        have HBb : Hid (BytesIn w5 B5 vb buf) := hBb
        have HM5 : Hid (m5 s1 z1 s2 z2 xo ((sh.zip l).drop p) [] fc tc = (buf, fc', tc', (sh.zip l).drop p')) := hm5
        have HB5w : Hid (Below B5 wr w5) := hB5w
        have hz5 : wr.heap.size ≤ w5.heap.size := hB5w.size
        have HRn5 : Hid (RunsIn w5 B vr runs) := owns_below HRn.out hB5w (fun k hk => by rw [HB5.out]; exact (World.ownsRow.lt HRn.out k hk).2)
        have hpp : p < p' := by
          have h := congrArg (fun q => q.2.2.2.length) hm5
          simp only [HFL.out] at h
          rw [List.length_drop, List.length_zip, HL.out, HLS.out] at h
          have h2 := m5_rest s1 z1 s2 z2 xo (xo, fi, ti) ((sh.zip l).drop (p + 1)) [] fc tc rfl
          rw [h, List.length_drop, List.length_zip, HL.out, HLS.out] at h2
          omega
        have HMn : Hid (m4 s1 z1 s2 z2 f0 ((sh.zip l).drop p0) [] 0 0 = m4 s1 z1 s2 z2 (f - 1) ((sh.zip l).drop p') (addRun runs xo ⟨buf.toArray⟩) fc' tc') := by
          have h := HM.out
          have e := hm5
          rw [HFL.out] at h e
          rw [show f = (f - 1) + 1 from by omega, m4] at h
          simp only [e] at h
          exact h
        obtain ⟨ab, cb, rfl⟩ := owns_len hBb
        have hcv := bytes_conv hBb
        clear hBb hm5 hB5w
        have hbb : (p' - p) * 1048576 ≤ 2199023255552 := by omega
        by_cases hb0 : buf.length = 0
        · have HAR : Hid (addRun runs xo ⟨buf.toArray⟩ = runs) := by unfold Hid addRun; rw [mk_size, if_pos hb0]
          rw [hb0]
          go_wp2
          go_roundg (n - p')
          case measure => omega
          case rel =>
            refine ⟨p', fc', tc', addRun runs xo ⟨buf.toArray⟩, f - 1, by omega, by omega, rfl, rfl, rfl, by omega, by omega, by omega, by omega, by omega, by have := addRun_length runs xo ⟨buf.toArray⟩; omega, ?_, ?_, ?_, ?_⟩
            · unfold Hid; rw [HAR.out]; exact HRn5.out
            · exact HMn
            · exact HBr.out.trans (HB5w.out.mono hB5)
            · omega
        · have HAR : Hid (addRun runs xo ⟨buf.toArray⟩ = runs ++ [(xo, ⟨buf.toArray⟩)]) := by unfold Hid addRun; rw [mk_size, if_neg hb0]
          have ib : 0 < (buf.length : Int) := by omega
          obtain ⟨BL, HBL⟩ : ∃ BL, Hid (BL = buf.length) := ⟨_, rfl⟩
          rw [← HBL.out] at hcv hbl hb0 ib ⊢
          obtain ⟨sb, HSB⟩ : ∃ sb : ByteArray, Hid (sb = ⟨buf.toArray⟩) := ⟨_, rfl⟩
          rw [← HSB.out] at hcv HAR
          have hown' : (w5.alloc (.cells #[.int .u8 xo, .string sb] 38)).ownsRow B 38 2 vr runs.length (runCells runs) := World.ownsRow.alloc HRn5.out _
          have HOW : Hid _ := hown'
          clear hown'
          go_wp2_with (at_builtin; refine wpList_append_src _ rfl (.tmp 158) (.tmp 163) 34 34 rfl B 38 i38 _ 2 24 Try.underlying34 h380 h381 h382 h383 rfl (by decide) vr _ _ rfl (by exact HOW.out) _ 1 [.int .u8 xo, .string sb] rfl (Src.ofSlice _ Try.underlying34 ⟨w5.heap.size, 0, none⟩ 1 1 _ rfl (cell_two_new _ _ _ _) (by intro u hu; simp at hu; rcases hu with rfl | rfl <;> rfl)) (by unfold maxLen; omega) (by omega) (by simp; omega) ?_; intro vr1 w6 ho6 hg6 hat6)
          go_roundg (n - p')
          case measure => omega
          case rel =>
            refine ⟨p', fc', tc', addRun runs xo ⟨buf.toArray⟩, f - 1, by omega, by omega, rfl, rfl, rfl, by omega, by omega, by omega, by omega, by omega, by have := addRun_length runs xo ⟨buf.toArray⟩; omega, ?_, ?_, ?_, ?_⟩
            · unfold Hid RunsIn; rw [← HSB.out, HAR.out, runCells_snoc, List.length_append]; exact ho6
            · exact HMn
            · exact ((HBr.out.trans (HB5w.out.mono hB5)).alloc (by omega) _).trans (grown_below hg6 (by simp; omega) (fun k hk => (World.ownsRow.lt HRn5.out k hk).1))
            · have := hg6.size; simp at this; omega
    · have e : (sh.zip l).drop p = [] := List.drop_eq_nil_of_le (by rw [List.length_zip, HL.out, HLS.out]; omega)
      have HM' : Hid _ := HM.out.trans (m4_stop _ _ _ _ _ _ _ _ _ (by rw [e]; intro x r h; simp at h))
      clear HM e
      go_wp2
      exact HC.out _ _ _ _ _ _ _ _ _ _ _ _ _ _ _ _ _ _ _ _ _ _ _ _ _ _ _ _ _ _ _ _ _ _ _ _ _ _ _ _ _ _ _ _ _ _ _ _ _ _ _ _ _ _ _ _ _ _ _ _ _ _ _ _ _ _ _ _ _ _ _ _ _ p fc tc runs _ (by omega) (by omega) hf1 hf2 ht1 ht2 hrl HRn.out HM'.out HBr.out
end Go.Proofs.Qxb6602907a
