import Derived.Test.Qxb6602907aR20
import Derived.Deep.CutBlock
import Derived.Deep.DeepCutAuto
import Derived.Deep.LoopGhost
import Derived.Deep.RegionWith
import Derived.Deep.DrawnRows
namespace Go.Proofs.Qxb6602907a
open Go.RowKit
set_option linter.unusedVariables false
attribute [local go_sem ↓] Go.wp_at_zero Go.wp_at_succ

set_option maxHeartbeats 8000000 in
set_option maxRecDepth 8000 in
theorem reg21 (code : Code) (hcode : Try.f14.body.bind (findRegion 21) = some code) (K : Act → World → Prop) (wa wf : World) (s : ByteArray) (b o n cp : Nat) (z : List Int) (B g : Nat) (FR TW FC TC : Int) (rv : Value) (rs : List (Int × ByteArray)) (c : Ch) (bc : Nat) (hgbc : g < bc) (hblk : wa.heap[bc]? = some (.cells #[.int .i64 c.i0, .int .i64 c.i1, .int .i64 c.j0, .int .i64 c.j1] 44 (0, 0))) 
    (u0 u1 u2 u4 u5 u6 u7 u8 u9 u10 u11 u12 u13 u14 u16 u17 u19 u20 u21 u22 u23 u24 u25 u26 u27 u28 u29 u30 u31 u32 u33 u34 u35 u36 u37 u38 u39 u40 u41 u42 u43 u44 u45 u46 u47 u48 u49 u50 u51 u52 u53 u54 u55 u56 u57 u58 u59 u60 u61 u62 u63 u64 u65 u66 u67 u68 u69 u70 u71 u72 u73 u74 u75 u76 u77 u78 u79 u80 u81 u82 u83 u84 u85 u86 u87 u88 u89 u90 u91 u92 u93 u94 u95 u96 u97 u98 u99 u100 u101 u102 u103 u104 u105 u106 u107 u108 u109 u110 u111 u112 u113 u114 u115 u116 u117 u118 u119 u120 u121 u122 u123 u124 u125 u126 u127 u128 u129 u130 u131 u132 u133 u134 u135 u136 u137 u138 u139 u140 u141 u142 u143 u144 u145 u146 u147 u148 u149 u150 u151 u152 u153 u154 : Value)
    (hIz : I32At wa b o z) (hz : z.length = n) (hT : TextOK s z) (hn : n ≤ 1048576) (hs : s.size ≤ 1048576) (hi0 : 0 ≤ c.i0) (hij : c.i0 ≤ c.i1) (hjn : c.i1 < n) (hrl : rs.length ≤ 1073741824)
    (e1 : wa.cell? ⟨B, 0, none⟩ = some (.string s)) (e2 : wa.cell? ⟨B, 1, none⟩ = some (.slice (some ⟨b, o, none⟩) n cp)) (hbx : B < wa.heap.size)
    (hv : HVar wa g FR TW FC TC rv) (hr : RunsIn wa (g + 1) rv rs) (hbf : Below g wf wa) (hga : g < wa.heap.size)
    (hK : ∀ (v116 v117 v118 v119 v120 v121 v122 v123 v124 v125 rva : Value) (wc : World), HVar wc g FR TW FC TC rva → RunsIn wc (g + 1) rva (addRun rs 45 (segI s z (c.i0) (c.i1))) → (wc.heap[bc]? = some (.cells #[.int .i64 c.i0, .int .i64 c.i1, .int .i64 c.j0, .int .i64 c.j1] 44 (0, 0))) → Below g wf wc → g < wc.heap.size →  K ⟨#[u0, u1, u2, .pointer (some ⟨B, 0, none⟩), u4, u5, u6, u7, u8, u9, u10, u11, u12, u13, u14, .pointer (some ⟨g, 0, none⟩), u16, u17, .pointer (some ⟨bc, 0, none⟩), u19, u20, u21, u22, u23, u24, u25, u26, u27, u28, u29, u30, u31, u32, u33, u34, u35, u36, u37, u38, u39, u40, u41, u42, u43, u44, u45, u46, u47, u48, u49, u50, u51, u52, u53, u54, u55, u56, u57, u58, u59, u60, u61, u62, u63, u64, u65, u66, u67, u68, u69, u70, u71, u72, u73, u74, u75, u76, u77, u78, u79, u80, u81, u82, u83, u84, u85, u86, u87, u88, u89, u90, u91, u92, u93, u94, u95, u96, u97, u98, u99, u100, u101, u102, u103, u104, u105, u106, u107, u108, u109, u110, u111, u112, u113, u114, u115, v116, v117, v118, v119, v120, v121, v122, v123, v124, v125, u126, u127, u128, u129, u130, u131, u132, u133, u134, u135, u136, u137, u138, u139, u140, u141, u142, u143, u144, u145, u146, u147, u148, u149, u150, u151, u152, u153, u154], []⟩ wc) :
    Code.wp Try.prog code (OnlyN K) ⟨#[u0, u1, u2, .pointer (some ⟨B, 0, none⟩), u4, u5, u6, u7, u8, u9, u10, u11, u12, u13, u14, .pointer (some ⟨g, 0, none⟩), u16, u17, .pointer (some ⟨bc, 0, none⟩), u19, u20, u21, u22, u23, u24, u25, u26, u27, u28, u29, u30, u31, u32, u33, u34, u35, u36, u37, u38, u39, u40, u41, u42, u43, u44, u45, u46, u47, u48, u49, u50, u51, u52, u53, u54, u55, u56, u57, u58, u59, u60, u61, u62, u63, u64, u65, u66, u67, u68, u69, u70, u71, u72, u73, u74, u75, u76, u77, u78, u79, u80, u81, u82, u83, u84, u85, u86, u87, u88, u89, u90, u91, u92, u93, u94, u95, u96, u97, u98, u99, u100, u101, u102, u103, u104, u105, u106, u107, u108, u109, u110, u111, u112, u113, u114, u115, u116, u117, u118, u119, u120, u121, u122, u123, u124, u125, u126, u127, u128, u129, u130, u131, u132, u133, u134, u135, u136, u137, u138, u139, u140, u141, u142, u143, u144, u145, u146, u147, u148, u149, u150, u151, u152, u153, u154], []⟩ wa := by
  have hc0 := Option.some.inj (show some _ = some code from hcode)
  subst hc0
  clear hcode
  have hv4 := hv.2.2.2.2.1
  have hvf := hv.2.2.2.2.2 4
  have HV : Hid (HVar wa g FR TW FC TC rv) := hv
  have HR : Hid (RunsIn wa (g + 1) rv rs) := hr
  have HBg : Hid (Below g wf wa) := hbf
  have HIz : Hid (I32At wa b o z ∧ TextOK s z) := ⟨hIz, hT⟩
  have HZ : Hid (z.length = n) := hz
  clear hv hr hbf hIz hT hz
  have hbcx : bc < wa.heap.size := (Array.getElem?_eq_some_iff.1 hblk).1
  have hk0 : wa.cell? ⟨bc, 0, none⟩ = some (.int .i64 c.i0) := (chis_of_block hblk).1
  have hk1 : wa.cell? ⟨bc, 1, none⟩ = some (.int .i64 c.i1) := (chis_of_block hblk).2.1
  have HK : Hid (wa.heap[bc]? = some (.cells #[.int .i64 c.i0, .int .i64 c.i1, .int .i64 c.j0, .int .i64 c.j1] 44 (0, 0))) := hblk
  clear hblk
  go_region_with (first
    | (go_at_call 19; refine (lines19' s b o n cp z (c.i0) (c.i1) _ (by exact HIz.out.1) HZ.out HIz.out.2 hn hs hi0 hij hjn).mono ?_; rintro e w1 ⟨rfl, hb⟩; have hv4' := (hb.cell (p := ⟨g, 4, none⟩) (by exact hga)).trans hv4; have hk0' := (hb.cell (p := ⟨bc, 0, none⟩) (by exact hbcx)).trans hk0; have hk1' := (hb.cell (p := ⟨bc, 1, none⟩) (by exact hbcx)).trans hk1; have hR1 : RunsIn w1 (g + 1) rv rs := owns_below HR.out (below_undrew hb) (fun k hk => (World.ownsRow.lt HR.out k hk).2); have hz1 : wa.heap.size ≤ w1.heap.size := hb.size)
    | (go_at_call 18; refine (addrun18 (g + 1) rv rs 45 _ _ (by exact hR1) (by omega) hrl (Nat.le_trans (segI_size _ _ _ _) (by unfold maxLen; omega))).mono ?_; rintro e w2 ⟨rva, rfl, hR2, hg2, hat⟩; obtain ⟨ao2, ln2, cp2, rfl⟩ := owns_shape hR2; have hne : some g ≠ Value.ownBlock rv := owns_ne HR.out; have hv4'' : w2.cell? ⟨g, 4, none⟩ = some rv := hg2.cell hv4' hne; have hvf'' : w2.frozen? ⟨g, 4, none⟩ = false := ((hg2.frozen_far ⟨g, 4, none⟩ (by simp only; omega) hne).trans (hb.frozen (p := ⟨g, 4, none⟩) (by exact hga))).trans hvf))
  all_goals (obtain ⟨k1, k2, k3, k4, k5⟩ := runs_step HV.out HR.out HK.out HBg.out hga hgbc (below_undrew hb) hR2 hg2; exact hK _ _ _ _ _ _ _ _ _ _ _ _ k1 k2 k3 k4 k5)

end Go.Proofs.Qxb6602907a
