import Derived.Test.Qxb6602907aN1
namespace Go.Proofs.Qxb6602907a
open Go.RowKit
set_option linter.unusedVariables false
attribute [local go_sem ↓] Go.wp_at_zero Go.wp_at_succ

theorem zip_at {α β : Type} {a : List α} {b : List β} {p : Nat} {x : α} {y : β} (h : a[p]? = some x) (h' : b[p]? = some y) : (a.zip b)[p]? = some (x, y) := by
  rw [List.getElem?_zip_eq_some]; exact ⟨h, h'⟩

theorem lineOf_len (s1 : ByteArray) (z1 : List Int) (s2 : ByteArray) (z2 : List Int) (x : Int × Int × Int) (h1 : s1.size ≤ 1048576) (h2 : s2.size ≤ 1048576) : (lineOf s1 z1 s2 z2 x).length ≤ 1048576 := by
  unfold lineOf
  split
  · exact Nat.le_trans (segI_size s2 z2 _ _) h2
  · exact Nat.le_trans (segI_size s1 z1 _ _) h1

/-- What the loops of the model read: the script's three rows and the flags. -/
structure Reads (w : World) (B : Nat) (ao af at_ as_ : Option Addr) (l : List (Int × Int × Int)) (sh : List Bool) : Prop where
  ops : RowAt w B ao (opCells l)
  fis : RowAt w B af (fiCells l)
  tis : RowAt w B at_ (tiCells l)
  shs : RowAt w B as_ (boCells sh)
theorem Reads.below {w w' : World} {B : Nat} {ao af at_ as_ : Option Addr} {l : List (Int × Int × Int)} {sh : List Bool} (h : Reads w B ao af at_ as_ l sh) (hb : Below B w w') : Reads w' B ao af at_ as_ l sh :=
  ⟨h.ops.below hb, h.fis.below hb, h.tis.below hb, h.shs.below hb⟩
theorem Reads.mono {w : World} {B B' : Nat} {ao af at_ as_ : Option Addr} {l : List (Int × Int × Int)} {sh : List Bool} (h : Reads w B ao af at_ as_ l sh) (hb : B ≤ B') : Reads w B' ao af at_ as_ l sh :=
  ⟨h.ops.mono hb, h.fis.mono hb, h.tis.mono hb, h.shs.mono hb⟩

/-- The two texts, as the loops read them. -/
structure Texts (w : World) (B : Nat) (s1 s2 : ByteArray) (g1 n1 g2 n2 : Nat) (z1 z2 : List Int) : Prop where
  i1 : I32At w g1 0 z1
  i2 : I32At w g2 0 z2
  l1 : z1.length = n1
  l2 : z2.length = n2
  t1 : TextOK s1 z1
  t2 : TextOK s2 z2
  b1 : g1 < B
  b2 : g2 < B
theorem Texts.below {w w' : World} {B B' : Nat} {s1 s2 : ByteArray} {g1 n1 g2 n2 : Nat} {z1 z2 : List Int} (h : Texts w B s1 s2 g1 n1 g2 n2 z1 z2) (hb : Below B' w w') (hB : B ≤ B') : Texts w' B' s1 s2 g1 n1 g2 n2 z1 z2 :=
  ⟨h.i1.below hb (by have := h.b1; omega), h.i2.below hb (by have := h.b2; omega), h.l1, h.l2, h.t1, h.t2, by have := h.b1; omega, by have := h.b2; omega⟩

set_option maxHeartbeats 20000000 in
set_option maxRecDepth 8000 in
theorem mloop5 (code : Code) (hcode : Try.f10.body.bind (findBlock 8) = some code) (C : Act → World → Prop) (w : World) (s1 s2 : ByteArray) (g1 n1 g2 n2 n gs co cf ct B p0 : Nat) (ao af at_ : Option Addr) (z1 z2 : List Int) (l : List (Int × Int × Int)) (sh : List Bool) (op fc0 tc0 : Int)
    (u4 u5 u6 u7 u8 u9 u10 u16 u17 u18 u19 u20 u21 u22 u26 u29 u30 u31 u32 u33 u34 u35 u36 u37 u38 u39 u40 u41 u42 u43 u44 u45 u46 u47 u48 u49 u50 u51 u52 u53 u54 u55 u56 u57 u58 u59 u60 u61 u62 u63 u64 u65 u66 u67 u68 u69 u70 u71 u72 u73 u74 u75 u76 u77 u78 u79 u80 u81 u82 u83 u84 u85 u86 u87 u88 u89 u90 u91 u92 u93 u94 u95 u96 u97 u98 u99 u100 u101 u102 u103 u104 u105 u106 u107 u108 u109 u110 u111 u112 u113 u114 u115 u116 u117 u118 u119 u120 u121 u122 u123 u124 u125 u126 u127 u128 u129 u130 u131 u132 u133 u134 u135 u136 u137 u138 u139 u140 u141 u142 u143 u144 u145 u146 u147 u148 u149 u150 u151 u152 u153 u154 u155 u156 u157 u158 u159 u160 u161 u162 u163 u164 u165 u166 u167 u168 u169 u170 u171 u172 u173 u174 u175 u176 u177 u178 u179 u180 u181 u182 u183 u184 u185 u186 u187 u188 u189 u190 u191 u192 u193 : Value)
    (HB : Hid (B = w.heap.size)) (HT : Hid (Texts w B s1 s2 g1 n1 g2 n2 z1 z2)) (HR : Hid (Reads w B ao af at_ (some ⟨gs, 0, none⟩) l sh)) (HL : Hid (l.length = n)) (HLS : Hid (sh.length = n)) (hn : n ≤ 2097152) (hs1 : s1.size ≤ 1048576) (hs2 : s2.size ≤ 1048576) (hn1 : n1 ≤ 1048576) (hn2 : n2 ≤ 1048576) (HLO : Hid (∀ x ∈ l, LineOK ((n1 : Int) - 1) ((n2 : Int) - 1) x)) (hp0 : p0 ≤ n) (hf0 : 0 ≤ fc0 ∧ fc0 ≤ p0) (ht0 : 0 ≤ tc0 ∧ tc0 ≤ p0)
    (hC : ∀ (v108 v109 v110 v111 v112 v113 v114 v115 v116 v117 v118 v119 v120 v121 v122 v123 v124 v125 v126 v127 v128 v129 v130 v131 v132 v133 v134 v135 v136 v137 v138 v139 v140 v141 v142 v143 v144 v145 v146 v147 v148 v149 v150 v151 v152 v153 v154 vb : Value) (p : Nat) (fc tc : Int) (buf : List UInt8) (wc : World), p0 ≤ p → p ≤ n → fc0 ≤ fc → fc - fc0 ≤ p - p0 → tc0 ≤ tc → tc - tc0 ≤ p - p0 → buf.length ≤ (p - p0) * 1048576 → BytesIn wc B vb buf → m5 s1 z1 s2 z2 op ((sh.zip l).drop p0) [] fc0 tc0 = (buf, fc, tc, (sh.zip l).drop p) → Below B w wc → C ⟨#[.string s1, .slice (some ⟨g1, 0, none⟩) n1 n1, .string s2, .slice (some ⟨g2, 0, none⟩) n2 n2, u4, u5, u6, u7, u8, u9, u10, .slice ao n co, .slice af n cf, .slice at_ n ct, .int .i64 n, .slice (some ⟨gs, 0, none⟩) n n, u16, u17, u18, u19, u20, u21, u22, .int .i64 (p : Int), .int .i64 fc, .int .i64 tc, u26, .int .u8 op, vb, u29, u30, u31, u32, u33, u34, u35, u36, u37, u38, u39, u40, u41, u42, u43, u44, u45, u46, u47, u48, u49, u50, u51, u52, u53, u54, u55, u56, u57, u58, u59, u60, u61, u62, u63, u64, u65, u66, u67, u68, u69, u70, u71, u72, u73, u74, u75, u76, u77, u78, u79, u80, u81, u82, u83, u84, u85, u86, u87, u88, u89, u90, u91, u92, u93, u94, u95, u96, u97, u98, u99, u100, u101, u102, u103, u104, u105, u106, u107, v108, v109, v110, v111, v112, v113, v114, v115, v116, v117, v118, v119, v120, v121, v122, v123, v124, v125, v126, v127, v128, v129, v130, v131, v132, v133, v134, v135, v136, v137, v138, v139, v140, v141, v142, v143, v144, v145, v146, v147, v148, v149, v150, v151, v152, v153, v154, u155, u156, u157, u158, u159, u160, u161, u162, u163, u164, u165, u166, u167, u168, u169, u170, u171, u172, u173, u174, u175, u176, u177, u178, u179, u180, u181, u182, u183, u184, u185, u186, u187, u188, u189, u190, u191, u192, u193], []⟩ wc) :
    Code.wp Try.prog code (OnlyN C) ⟨#[.string s1, .slice (some ⟨g1, 0, none⟩) n1 n1, .string s2, .slice (some ⟨g2, 0, none⟩) n2 n2, u4, u5, u6, u7, u8, u9, u10, .slice ao n co, .slice af n cf, .slice at_ n ct, .int .i64 n, .slice (some ⟨gs, 0, none⟩) n n, u16, u17, u18, u19, u20, u21, u22, .int .i64 p0, .int .i64 fc0, .int .i64 tc0, u26, .int .u8 op, .slice none 0 0, u29, u30, u31, u32, u33, u34, u35, u36, u37, u38, u39, u40, u41, u42, u43, u44, u45, u46, u47, u48, u49, u50, u51, u52, u53, u54, u55, u56, u57, u58, u59, u60, u61, u62, u63, u64, u65, u66, u67, u68, u69, u70, u71, u72, u73, u74, u75, u76, u77, u78, u79, u80, u81, u82, u83, u84, u85, u86, u87, u88, u89, u90, u91, u92, u93, u94, u95, u96, u97, u98, u99, u100, u101, u102, u103, u104, u105, u106, u107, u108, u109, u110, u111, u112, u113, u114, u115, u116, u117, u118, u119, u120, u121, u122, u123, u124, u125, u126, u127, u128, u129, u130, u131, u132, u133, u134, u135, u136, u137, u138, u139, u140, u141, u142, u143, u144, u145, u146, u147, u148, u149, u150, u151, u152, u153, u154, u155, u156, u157, u158, u159, u160, u161, u162, u163, u164, u165, u166, u167, u168, u169, u170, u171, u172, u173, u174, u175, u176, u177, u178, u179, u180, u181, u182, u183, u184, u185, u186, u187, u188, u189, u190, u191, u192, u193], []⟩ w := by
  have hc0 := Option.some.inj (show some _ = some code from hcode)
  subst hc0
  clear hcode
  have HC : Hid (∀ (v108 v109 v110 v111 v112 v113 v114 v115 v116 v117 v118 v119 v120 v121 v122 v123 v124 v125 v126 v127 v128 v129 v130 v131 v132 v133 v134 v135 v136 v137 v138 v139 v140 v141 v142 v143 v144 v145 v146 v147 v148 v149 v150 v151 v152 v153 v154 vb : Value) (p : Nat) (fc tc : Int) (buf : List UInt8) (wc : World), p0 ≤ p → p ≤ n → fc0 ≤ fc → fc - fc0 ≤ p - p0 → tc0 ≤ tc → tc - tc0 ≤ p - p0 → buf.length ≤ (p - p0) * 1048576 → BytesIn wc B vb buf → m5 s1 z1 s2 z2 op ((sh.zip l).drop p0) [] fc0 tc0 = (buf, fc, tc, (sh.zip l).drop p) → Below B w wc → C ⟨#[.string s1, .slice (some ⟨g1, 0, none⟩) n1 n1, .string s2, .slice (some ⟨g2, 0, none⟩) n2 n2, u4, u5, u6, u7, u8, u9, u10, .slice ao n co, .slice af n cf, .slice at_ n ct, .int .i64 n, .slice (some ⟨gs, 0, none⟩) n n, u16, u17, u18, u19, u20, u21, u22, .int .i64 (p : Int), .int .i64 fc, .int .i64 tc, u26, .int .u8 op, vb, u29, u30, u31, u32, u33, u34, u35, u36, u37, u38, u39, u40, u41, u42, u43, u44, u45, u46, u47, u48, u49, u50, u51, u52, u53, u54, u55, u56, u57, u58, u59, u60, u61, u62, u63, u64, u65, u66, u67, u68, u69, u70, u71, u72, u73, u74, u75, u76, u77, u78, u79, u80, u81, u82, u83, u84, u85, u86, u87, u88, u89, u90, u91, u92, u93, u94, u95, u96, u97, u98, u99, u100, u101, u102, u103, u104, u105, u106, u107, v108, v109, v110, v111, v112, v113, v114, v115, v116, v117, v118, v119, v120, v121, v122, v123, v124, v125, v126, v127, v128, v129, v130, v131, v132, v133, v134, v135, v136, v137, v138, v139, v140, v141, v142, v143, v144, v145, v146, v147, v148, v149, v150, v151, v152, v153, v154, u155, u156, u157, u158, u159, u160, u161, u162, u163, u164, u165, u166, u167, u168, u169, u170, u171, u172, u173, u174, u175, u176, u177, u178, u179, u180, u181, u182, u183, u184, u185, u186, u187, u188, u189, u190, u191, u192, u193], []⟩ wc) := hC
  clear hC
  obtain ⟨i5, h50, h51, h52, h53⟩ := info_parts Try.info5
  go_wp2
  go_loopg [23, 24, 25, 28] (n - p0) (fun gk vp vf vt vb wr => ∃ (p : Nat) (fc tc : Int) (buf : List UInt8), gk + p = n ∧ p0 ≤ p ∧ vp = .int .i64 p ∧ vf = .int .i64 fc ∧ vt = .int .i64 tc ∧ fc0 ≤ fc ∧ fc - fc0 ≤ p - p0 ∧ tc0 ≤ tc ∧ tc - tc0 ≤ p - p0 ∧ buf.length ≤ (p - p0) * 1048576 ∧ Hid (BytesIn wr B vb buf) ∧ Hid (m5 s1 z1 s2 z2 op ((sh.zip l).drop p0) [] fc0 tc0 = m5 s1 z1 s2 z2 op ((sh.zip l).drop p) buf fc tc) ∧ Hid (Below B w wr) ∧ B ≤ wr.heap.size)
  case atStart => exact ⟨p0, fc0, tc0, [], by omega, by omega, rfl, rfl, rfl, by omega, by omega, by omega, by omega, by simp, World.ownsRow_nil _ _ _ _, rfl, Below.refl _ _, by rw [HB.out]; exact Nat.le_refl _⟩
  case round =>
    obtain ⟨p, fc, tc, buf, hk, hp, rfl, rfl, rfl, hf1, hf2, ht1, ht2, hbl, HBb, HM, HBr, hBr⟩ := hrel
    obtain ⟨G, rfl⟩ : ∃ G, G = gk := ⟨_, rfl⟩
    obtain ⟨vb, rfl⟩ : ∃ vb, vb = u28 := ⟨_, rfl⟩
    by_cases hlt : p < n
    · obtain ⟨x, hx⟩ : ∃ x, l[p]? = some x := ⟨l[p]'(by rw [HL.out]; exact hlt), by simp⟩
      obtain ⟨b, hb⟩ : ∃ b, sh[p]? = some b := ⟨sh[p]'(by rw [HLS.out]; exact hlt), by simp⟩
      have HFL : Hid ((sh.zip l).drop p = (b, x) :: (sh.zip l).drop (p + 1)) := drop_at (zip_at hb hx)
      have hxo := HLO.out x (List.mem_of_getElem? hx)
      have HRr := HR.out.below HBr.out
      have HTr : Hid (Texts wr B s1 s2 g1 n1 g2 n2 z1 z2) := HT.out.below HBr.out (Nat.le_refl _)
      obtain ⟨go, rfl, hgo, c0⟩ := HRr.ops p _ (opCells_at hx)
      obtain ⟨gf, rfl, hgf, c1⟩ := HRr.fis p _ (fiCells_at hx)
      obtain ⟨gt, rfl, hgt, c2⟩ := HRr.tis p _ (tiCells_at hx)
      obtain ⟨gs', e, hgs, c3⟩ := HRr.shs p _ (boCells_at hb)
      have e' : gs = gs' := by simpa using e
      subst e'
      clear e HRr hx hb
      obtain ⟨xo, fi, ti⟩ := x
      unfold LineOK at hxo
      simp only at c0 c1 c2 c3 hxo
      have ip : (p : Int) < n := by omega
      have hpb : (p - p0) * 1048576 ≤ 2199023255552 := by omega
      cases b with
      | false =>
        have h := HM.out
        rw [HFL.out, m5, if_neg (by simp), ← HFL.out] at h
        have HM' : Hid _ := h
        clear h HM
        go_wp2
        exact HC.out _ _ _ _ _ _ _ _ _ _ _ _ _ _ _ _ _ _ _ _ _ _ _ _ _ _ _ _ _ _ _ _ _ _ _ _ _ _ _ _ _ _ _ _ _ _ _ _ p fc tc buf _ (by omega) (by omega) hf1 (by omega) ht1 (by omega) hbl HBb.out HM'.out HBr.out
      | true =>
       by_cases hxe : xo = op
       · subst hxe
         have hop : (xo = 32 ∧ 0 ≤ fi ∧ fi + 1 < n1) ∨ (xo = 45 ∧ 0 ≤ fi ∧ fi + 1 < n1) ∨ (xo = 43 ∧ 0 ≤ ti ∧ ti + 1 < n2) := by omega
         clear hxo
         rcases hop with ⟨rfl, q1, q2⟩ | ⟨rfl, q1, q2⟩ | ⟨rfl, q1, q2⟩
         · have hz := segI_size s1 z1 fi (fi + 1)
           have hL : lineOf s1 z1 s2 z2 (32, fi, ti) = (segI s1 z1 fi (fi + 1)).data.toList := rfl
           have HLi : Hid (lineOf s1 z1 s2 z2 (32, fi, ti) = (segI s1 z1 fi (fi + 1)).data.toList) := hL
           clear hL
           obtain ⟨sg, HSG⟩ : ∃ sg, Hid (sg = segI s1 z1 fi (fi + 1)) := ⟨_, rfl⟩
           rw [← HSG.out] at hz HLi
           go_wp2_with (first
             | (go_at_call 16; refine (line16' s1 g1 0 n1 n1 z1 fi _ (by exact HTr.out.i1) HTr.out.l1 HTr.out.t1 hn1 hs1 (by omega) (by omega)).mono ?_; rintro _ _ ⟨rfl, nd, rfl⟩; rw [← HSG.out])
             | (at_builtin; refine wpList_append_src _ rfl (.tmp 136) (.tmp 143) 33 9 rfl B 5 i5 _ 1 1 Try.underlying33 h50 h51 h52 h53 rfl (by decide) vb _ _ rfl (by exact HBb.out) (.string sg) _ _ rfl (Src.ofString _ Try.underlying9 _) (by unfold maxLen; omega) (by omega) (by show B ≤ wr.heap.size; omega) ?_; intro vb1 w1 ho1 hg1 hat1))
           go_roundg (G - 1)
           case measure => omega
           case rel =>
             have hzl : sg.data.toList.length = sg.size := rfl
             refine ⟨p + 1, fc + 1, tc + 1, buf ++ sg.data.toList, by omega, by omega, by go_num, by first | rfl | go_num, by first | rfl | go_num, by omega, by omega, by omega, by omega, ?_, ?_, ?_, ?_, ?_⟩
             · rw [List.length_append, hzl, show (p + 1 - p0) * 1048576 = (p - p0) * 1048576 + 1048576 from by omega]; omega
             · unfold Hid BytesIn; rw [List.length_append, bCells_append]; exact ho1
             · have h := HM.out
               rw [HFL.out, m5, if_pos ⟨rfl, rfl⟩, HLi.out] at h
               unfold Hid; simpa using h
             · exact (below_drewN HBr.out nd).trans (grown_below hg1 (by show B ≤ wr.heap.size; omega) (fun k hk => (World.ownsRow.lt HBb.out k hk).1))
             · have := hg1.size; have h2 : (wr.drewN nd).heap.size = wr.heap.size := rfl; omega
         · have hz := segI_size s1 z1 fi (fi + 1)
           have hL : lineOf s1 z1 s2 z2 (45, fi, ti) = (segI s1 z1 fi (fi + 1)).data.toList := rfl
           have HLi : Hid (lineOf s1 z1 s2 z2 (45, fi, ti) = (segI s1 z1 fi (fi + 1)).data.toList) := hL
           clear hL
           obtain ⟨sg, HSG⟩ : ∃ sg, Hid (sg = segI s1 z1 fi (fi + 1)) := ⟨_, rfl⟩
           rw [← HSG.out] at hz HLi
           go_wp2_with (first
             | (go_at_call 16; refine (line16' s1 g1 0 n1 n1 z1 fi _ (by exact HTr.out.i1) HTr.out.l1 HTr.out.t1 hn1 hs1 (by omega) (by omega)).mono ?_; rintro _ _ ⟨rfl, nd, rfl⟩; rw [← HSG.out])
             | (at_builtin; refine wpList_append_src _ rfl (.tmp 136) (.tmp 143) 33 9 rfl B 5 i5 _ 1 1 Try.underlying33 h50 h51 h52 h53 rfl (by decide) vb _ _ rfl (by exact HBb.out) (.string sg) _ _ rfl (Src.ofString _ Try.underlying9 _) (by unfold maxLen; omega) (by omega) (by show B ≤ wr.heap.size; omega) ?_; intro vb1 w1 ho1 hg1 hat1))
           go_roundg (G - 1)
           case measure => omega
           case rel =>
             have hzl : sg.data.toList.length = sg.size := rfl
             refine ⟨p + 1, fc + 1, tc, buf ++ sg.data.toList, by omega, by omega, by go_num, by first | rfl | go_num, by first | rfl | go_num, by omega, by omega, by omega, by omega, ?_, ?_, ?_, ?_, ?_⟩
             · rw [List.length_append, hzl, show (p + 1 - p0) * 1048576 = (p - p0) * 1048576 + 1048576 from by omega]; omega
             · unfold Hid BytesIn; rw [List.length_append, bCells_append]; exact ho1
             · have h := HM.out
               rw [HFL.out, m5, if_pos ⟨rfl, rfl⟩, HLi.out] at h
               unfold Hid; simpa using h
             · exact (below_drewN HBr.out nd).trans (grown_below hg1 (by show B ≤ wr.heap.size; omega) (fun k hk => (World.ownsRow.lt HBb.out k hk).1))
             · have := hg1.size; have h2 : (wr.drewN nd).heap.size = wr.heap.size := rfl; omega
         · have hz := segI_size s2 z2 ti (ti + 1)
           have hL : lineOf s1 z1 s2 z2 (43, fi, ti) = (segI s2 z2 ti (ti + 1)).data.toList := rfl
           have HLi : Hid (lineOf s1 z1 s2 z2 (43, fi, ti) = (segI s2 z2 ti (ti + 1)).data.toList) := hL
           clear hL
           obtain ⟨sg, HSG⟩ : ∃ sg, Hid (sg = segI s2 z2 ti (ti + 1)) := ⟨_, rfl⟩
           rw [← HSG.out] at hz HLi
           go_wp2_with (first
             | (go_at_call 16; refine (line16' s2 g2 0 n2 n2 z2 ti _ (by exact HTr.out.i2) HTr.out.l2 HTr.out.t2 hn2 hs2 (by omega) (by omega)).mono ?_; rintro _ _ ⟨rfl, nd, rfl⟩; rw [← HSG.out])
             | (at_builtin; refine wpList_append_src _ rfl (.tmp 127) (.tmp 134) 33 9 rfl B 5 i5 _ 1 1 Try.underlying33 h50 h51 h52 h53 rfl (by decide) vb _ _ rfl (by exact HBb.out) (.string sg) _ _ rfl (Src.ofString _ Try.underlying9 _) (by unfold maxLen; omega) (by omega) (by show B ≤ wr.heap.size; omega) ?_; intro vb1 w1 ho1 hg1 hat1))
           go_roundg (G - 1)
           case measure => omega
           case rel =>
             have hzl : sg.data.toList.length = sg.size := rfl
             refine ⟨p + 1, fc, tc + 1, buf ++ sg.data.toList, by omega, by omega, by go_num, by first | rfl | go_num, by first | rfl | go_num, by omega, by omega, by omega, by omega, ?_, ?_, ?_, ?_, ?_⟩
             · rw [List.length_append, hzl, show (p + 1 - p0) * 1048576 = (p - p0) * 1048576 + 1048576 from by omega]; omega
             · unfold Hid BytesIn; rw [List.length_append, bCells_append]; exact ho1
             · have h := HM.out
               rw [HFL.out, m5, if_pos ⟨rfl, rfl⟩, HLi.out] at h
               unfold Hid; simpa using h
             · exact (below_drewN HBr.out nd).trans (grown_below hg1 (by show B ≤ wr.heap.size; omega) (fun k hk => (World.ownsRow.lt HBb.out k hk).1))
             · have := hg1.size; have h2 : (wr.drewN nd).heap.size = wr.heap.size := rfl; omega
       · have h := HM.out
         rw [HFL.out, m5, if_neg (by simp [hxe]), ← HFL.out] at h
         have HM' : Hid _ := h
         clear h HM
         go_wp2
         exact HC.out _ _ _ _ _ _ _ _ _ _ _ _ _ _ _ _ _ _ _ _ _ _ _ _ _ _ _ _ _ _ _ _ _ _ _ _ _ _ _ _ _ _ _ _ _ _ _ _ p fc tc buf _ (by omega) (by omega) hf1 (by omega) ht1 (by omega) hbl HBb.out HM'.out HBr.out
    · have h := HM.out
      have e : (sh.zip l).drop p = [] := List.drop_eq_nil_of_le (by rw [List.length_zip, HL.out, HLS.out]; omega)
      rw [e, m5] at h
      have HM' : Hid (m5 s1 z1 s2 z2 op ((sh.zip l).drop p0) [] fc0 tc0 = (buf, fc, tc, (sh.zip l).drop p)) := by unfold Hid; rw [e]; exact h
      clear h HM e
      go_wp2
      exact HC.out _ _ _ _ _ _ _ _ _ _ _ _ _ _ _ _ _ _ _ _ _ _ _ _ _ _ _ _ _ _ _ _ _ _ _ _ _ _ _ _ _ _ _ _ _ _ _ _ p fc tc buf _ (by omega) (by omega) hf1 (by omega) ht1 (by omega) hbl HBb.out HM'.out HBr.out
end Go.Proofs.Qxb6602907a
