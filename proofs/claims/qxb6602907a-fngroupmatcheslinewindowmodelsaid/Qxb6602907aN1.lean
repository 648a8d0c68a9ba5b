import Derived.Test.Qxb6602907aMod
import Derived.Test.Qxb6602907aB1
import Derived.Test.Qxb6602907aL4
namespace Go.Proofs.Qxb6602907a
open Go.RowKit
set_option linter.unusedVariables false
attribute [local go_sem ↓] Go.wp_at_zero Go.wp_at_succ

theorem Try.info4 : (Try.prog.info? 4).map (fun i => (i.zero, i.size, i.bytes)) = some (some (.bool false), 1, 1) := by kernel_rfl

/-- A row of single cells at the slice's address, below B. -/
def RowAt (w : World) (B : Nat) (a : Option Addr) (xs : List Value) : Prop := ∀ (p : Nat) (v : Value), xs[p]? = some v → ∃ g, a = some ⟨g, 0, none⟩ ∧ g < B ∧ w.cell? ⟨g, p, none⟩ = some v

theorem RowAt.below {w w' : World} {B : Nat} {a : Option Addr} {xs : List Value} (h : RowAt w B a xs) (hb : Below B w w') : RowAt w' B a xs := fun p v hp => by
  obtain ⟨g, e, hg, hc⟩ := h p v hp
  exact ⟨g, e, hg, (hb.cell (p := ⟨g, p, none⟩) hg).trans hc⟩
theorem RowAt.mono {w : World} {B B' : Nat} {a : Option Addr} {xs : List Value} (h : RowAt w B a xs) (hb : B ≤ B') : RowAt w B' a xs := fun p v hp => by
  obtain ⟨g, e, hg, hc⟩ := h p v hp
  exact ⟨g, e, by omega, hc⟩
theorem RowAt.of {w : World} {base B : Nat} {e : TypeId} {a : Option Addr} {n c : Nat} {xs : List Value} (h : w.ownsRow base e 1 (.slice a n c) n xs) (hB : w.heap.size ≤ B) : RowAt w B a xs := fun p v hp => by
  have hl : xs.length = n * 1 := h.1
  have hlt : p < xs.length := by
    rcases Nat.lt_or_ge p xs.length with h | h
    · exact h
    · rw [List.getElem?_eq_none h] at hp; cases hp
  obtain ⟨g, ha, hg, hc⟩ := owns_at h (by omega)
  exact ⟨g, ha, by omega, by rw [hc p (by omega)]; exact hp⟩

def boCells (l : List Bool) : List Value := l.map Value.bool
theorem boCells_at {l : List Bool} {p : Nat} {b : Bool} (h : l[p]? = some b) : (boCells l)[p]? = some (.bool b) := by simp [boCells, h]
theorem opCells_at {l : List (Int × Int × Int)} {p : Nat} {x : Int × Int × Int} (h : l[p]? = some x) : (opCells l)[p]? = some (.int .u8 x.1) := by simp [opCells, h]
theorem fiCells_at {l : List (Int × Int × Int)} {p : Nat} {x : Int × Int × Int} (h : l[p]? = some x) : (fiCells l)[p]? = some (.int .i64 x.2.1) := by simp [fiCells, h]
theorem tiCells_at {l : List (Int × Int × Int)} {p : Nat} {x : Int × Int × Int} (h : l[p]? = some x) : (tiCells l)[p]? = some (.int .i64 x.2.2) := by simp [tiCells, h]
theorem boCells_length (l : List Bool) : (boCells l).length = l.length := by simp [boCells]
theorem boCells_set (l : List Bool) (p : Nat) (b : Bool) : (boCells l).set p (.bool b) = boCells (l.set p b) := by simp [boCells, List.map_set]

/-- The bool row as the first loop leaves it at line p. -/
def rowF (bs : List Bool) (m : Nat) : List Bool := bs ++ List.replicate m false
theorem rowF_set (bs : List Bool) (m : Nat) : (rowF bs (m + 1)).set bs.length true = rowF (bs ++ [true]) m := by
  simp [rowF, List.replicate_succ]
theorem rowF_skip (bs : List Bool) (m : Nat) : rowF bs (m + 1) = rowF (bs ++ [false]) m := by
  simp [rowF, List.replicate_succ]
/-- The bool row as the second loop leaves it ahead of line q. -/
def rowB (F : List Bool) (l : List (Int × Int × Int)) (q : Nat) : List Bool := F.take q ++ orL (F.drop q) (bwd (l.drop q)).1
theorem rowB_len {F : List Bool} {l : List (Int × Int × Int)} (h : F.length = l.length) (q : Nat) : (rowB F l q).length = l.length := by
  simp [rowB, orL, bwd_length, h]
  omega
theorem drop_at {α : Type} {l : List α} {p : Nat} {x : α} (h : l[p]? = some x) : l.drop p = x :: l.drop (p + 1) := by
  have hl : p < l.length := by
    rcases Nat.lt_or_ge p l.length with h' | h'
    · exact h'
    · rw [List.getElem?_eq_none h'] at h; cases h
  rw [List.drop_eq_getElem_cons hl]
  rw [List.getElem?_eq_getElem hl] at h
  simp at h
  rw [h]
theorem rowB_step {F : List Bool} {l : List (Int × Int × Int)} {p : Nat} {x : Int × Int × Int} {b : Bool} (hx : l[p]? = some x) (hb : F[p]? = some b) :
    (x.1 ≠ 32 → rowB F l p = rowB F l (p + 1) ∧ (bwd (l.drop p)).2 = 0) ∧
    (x.1 = 32 → (bwd (l.drop (p + 1))).2 < 3 → rowB F l p = (rowB F l (p + 1)).set p true ∧ (bwd (l.drop p)).2 = (bwd (l.drop (p + 1))).2 + 1) ∧
    (x.1 = 32 → ¬ (bwd (l.drop (p + 1))).2 < 3 → rowB F l p = rowB F l (p + 1) ∧ (bwd (l.drop p)).2 = (bwd (l.drop (p + 1))).2) := by
  have hp : p < F.length := by
    rcases Nat.lt_or_ge p F.length with h' | h'
    · exact h'
    · rw [List.getElem?_eq_none h'] at hb; cases hb
  have ht : F.take (p + 1) = F.take p ++ [b] := take_succ' hb
  have hlen : (F.take p).length = p := by simp; omega
  unfold rowB
  rw [ht, drop_at hb, drop_at hx]
  refine ⟨fun h => ?_, fun h h' => ?_, fun h h' => ?_⟩
  · rw [bwd, if_neg h]; simp [orL]
  · rw [bwd, if_pos h, if_pos h']
    refine ⟨?_, rfl⟩
    rw [List.append_assoc, List.set_append_right _ _ (by omega), hlen, Nat.sub_self]
    simp [orL]
  · rw [bwd, if_pos h, if_neg h']; simp [orL]

set_option maxHeartbeats 20000000 in
set_option maxRecDepth 8000 in
theorem mloop1 (code : Code) (hcode : Try.f10.body.bind (findBlock 0) = some code) (C : Act → World → Prop) (w : World) (n gs co : Nat) (ao : Option Addr) (l : List (Int × Int × Int))
    (u0 u1 u2 u3 u4 u5 u6 u7 u8 u9 u10 u12 u13 u18 u19 u20 u21 u22 u23 u24 u25 u26 u27 u28 u29 u30 u31 u32 u33 u34 u35 u36 u37 u38 u39 u40 u41 u42 u43 u44 u45 u46 u47 u48 u49 u50 u51 u52 u53 u54 u55 u56 u57 u58 u59 u60 u61 u62 u63 u64 u65 u66 u67 u68 u69 u70 u71 u72 u73 u74 u75 u76 u77 u78 u79 u80 u81 u82 u83 u84 u85 u86 u87 u88 u89 u90 u91 u92 u93 u94 u95 u96 u97 u98 u99 u100 u101 u102 u103 u104 u105 u106 u107 u108 u109 u110 u111 u112 u113 u114 u115 u116 u117 u118 u119 u120 u121 u122 u123 u124 u125 u126 u127 u128 u129 u130 u131 u132 u133 u134 u135 u136 u137 u138 u139 u140 u141 u142 u143 u144 u145 u146 u147 u148 u149 u150 u151 u152 u153 u154 u155 u156 u157 u158 u159 u160 u161 u162 u163 u164 u165 u166 u167 u168 u169 u170 u171 u172 u173 u174 u175 u176 u177 u178 u179 u180 u181 u182 u183 u184 u185 u186 u187 u188 u189 u190 u191 u192 u193 : Value)
    (HL : Hid (l.length = n)) (hn : n ≤ 2097152) (HO : Hid (RowAt w gs ao (opCells l))) (HS : Hid (w.ownsRow gs 4 1 (.slice (some ⟨gs, 0, none⟩) n n) n (boCells (List.replicate n false))))
    (hC : ∀ (v16 v17 v43 v44 v45 v46 v47 v48 v49 v50 v51 v52 v53 v54 v55 v56 v57 v58 v59 v60 v61 v62 : Value) (wc : World), wc.ownsRow gs 4 1 (.slice (some ⟨gs, 0, none⟩) n n) n (boCells (fwd 3 l)) → Below gs w wc → C ⟨#[u0, u1, u2, u3, u4, u5, u6, u7, u8, u9, u10, .slice ao n co, u12, u13, .int .i64 n, .slice (some ⟨gs, 0, none⟩) n n, v16, v17, u18, u19, u20, u21, u22, u23, u24, u25, u26, u27, u28, u29, u30, u31, u32, u33, u34, u35, u36, u37, u38, u39, u40, u41, u42, v43, v44, v45, v46, v47, v48, v49, v50, v51, v52, v53, v54, v55, v56, v57, v58, v59, v60, v61, v62, u63, u64, u65, u66, u67, u68, u69, u70, u71, u72, u73, u74, u75, u76, u77, u78, u79, u80, u81, u82, u83, u84, u85, u86, u87, u88, u89, u90, u91, u92, u93, u94, u95, u96, u97, u98, u99, u100, u101, u102, u103, u104, u105, u106, u107, u108, u109, u110, u111, u112, u113, u114, u115, u116, u117, u118, u119, u120, u121, u122, u123, u124, u125, u126, u127, u128, u129, u130, u131, u132, u133, u134, u135, u136, u137, u138, u139, u140, u141, u142, u143, u144, u145, u146, u147, u148, u149, u150, u151, u152, u153, u154, u155, u156, u157, u158, u159, u160, u161, u162, u163, u164, u165, u166, u167, u168, u169, u170, u171, u172, u173, u174, u175, u176, u177, u178, u179, u180, u181, u182, u183, u184, u185, u186, u187, u188, u189, u190, u191, u192, u193], []⟩ wc) :
    Code.wp Try.prog code (OnlyN C) ⟨#[u0, u1, u2, u3, u4, u5, u6, u7, u8, u9, u10, .slice ao n co, u12, u13, .int .i64 n, .slice (some ⟨gs, 0, none⟩) n n, .int .i64 3, .int .i64 0, u18, u19, u20, u21, u22, u23, u24, u25, u26, u27, u28, u29, u30, u31, u32, u33, u34, u35, u36, u37, u38, u39, u40, u41, u42, u43, u44, u45, u46, u47, u48, u49, u50, u51, u52, u53, u54, u55, u56, u57, u58, u59, u60, u61, u62, u63, u64, u65, u66, u67, u68, u69, u70, u71, u72, u73, u74, u75, u76, u77, u78, u79, u80, u81, u82, u83, u84, u85, u86, u87, u88, u89, u90, u91, u92, u93, u94, u95, u96, u97, u98, u99, u100, u101, u102, u103, u104, u105, u106, u107, u108, u109, u110, u111, u112, u113, u114, u115, u116, u117, u118, u119, u120, u121, u122, u123, u124, u125, u126, u127, u128, u129, u130, u131, u132, u133, u134, u135, u136, u137, u138, u139, u140, u141, u142, u143, u144, u145, u146, u147, u148, u149, u150, u151, u152, u153, u154, u155, u156, u157, u158, u159, u160, u161, u162, u163, u164, u165, u166, u167, u168, u169, u170, u171, u172, u173, u174, u175, u176, u177, u178, u179, u180, u181, u182, u183, u184, u185, u186, u187, u188, u189, u190, u191, u192, u193], []⟩ w := by
  have hc0 := Option.some.inj (show some _ = some code from hcode)
  subst hc0
  clear hcode
  have HC : Hid (∀ (v16 v17 v43 v44 v45 v46 v47 v48 v49 v50 v51 v52 v53 v54 v55 v56 v57 v58 v59 v60 v61 v62 : Value) (wc : World), wc.ownsRow gs 4 1 (.slice (some ⟨gs, 0, none⟩) n n) n (boCells (fwd 3 l)) → Below gs w wc → C ⟨#[u0, u1, u2, u3, u4, u5, u6, u7, u8, u9, u10, .slice ao n co, u12, u13, .int .i64 n, .slice (some ⟨gs, 0, none⟩) n n, v16, v17, u18, u19, u20, u21, u22, u23, u24, u25, u26, u27, u28, u29, u30, u31, u32, u33, u34, u35, u36, u37, u38, u39, u40, u41, u42, v43, v44, v45, v46, v47, v48, v49, v50, v51, v52, v53, v54, v55, v56, v57, v58, v59, v60, v61, v62, u63, u64, u65, u66, u67, u68, u69, u70, u71, u72, u73, u74, u75, u76, u77, u78, u79, u80, u81, u82, u83, u84, u85, u86, u87, u88, u89, u90, u91, u92, u93, u94, u95, u96, u97, u98, u99, u100, u101, u102, u103, u104, u105, u106, u107, u108, u109, u110, u111, u112, u113, u114, u115, u116, u117, u118, u119, u120, u121, u122, u123, u124, u125, u126, u127, u128, u129, u130, u131, u132, u133, u134, u135, u136, u137, u138, u139, u140, u141, u142, u143, u144, u145, u146, u147, u148, u149, u150, u151, u152, u153, u154, u155, u156, u157, u158, u159, u160, u161, u162, u163, u164, u165, u166, u167, u168, u169, u170, u171, u172, u173, u174, u175, u176, u177, u178, u179, u180, u181, u182, u183, u184, u185, u186, u187, u188, u189, u190, u191, u192, u193], []⟩ wc) := hC
  clear hC
  go_wp2
  go_loopg [16, 17] n (fun gk vs vp wr => ∃ (p s : Nat) (bs : List Bool), gk + p = n ∧ vp = .int .i64 p ∧ vs = .int .i64 s ∧ s ≤ 3 ∧ Hid (bs.length = p) ∧ Hid (bs ++ fwd s (l.drop p) = fwd 3 l) ∧ Hid (wr.ownsRow gs 4 1 (.slice (some ⟨gs, 0, none⟩) n n) n (boCells (rowF bs (n - p)))) ∧ Hid (Below gs w wr))
  case atStart => exact ⟨0, 3, [], by omega, rfl, rfl, by omega, rfl, rfl, by unfold Hid; simpa [rowF] using HS.out, Below.refl _ _⟩
  case round =>
    obtain ⟨p, s, bs, hk, rfl, rfl, hs, HBL, HF, HR, HB⟩ := hrel
    by_cases hlt : p < n
    · obtain ⟨x, hx⟩ : ∃ x, l[p]? = some x := ⟨l[p]'(by rw [HL.out]; exact hlt), by simp⟩
      obtain ⟨go, rfl, hgo, c0⟩ := HO.out p _ (opCells_at hx)
      have c0 := (HB.out.cell (p := ⟨go, p, none⟩) hgo).trans c0
      obtain ⟨ob, t0⟩ : ∃ v, wr.cell? ⟨gs, p, none⟩ = some v := ⟨(boCells (rowF bs (n - p)))[p]'(by rw [boCells_length, rowF, List.length_append, HBL.out, List.length_replicate]; omega), by rw [HR.out.cellAt _ (by omega)]; simp⟩
      have f0 := HR.out.frozenAt p
      have hdr := drop_at hx
      have HDR : Hid (l.drop p = x :: l.drop (p + 1)) := hdr
      obtain ⟨op, xa, xb⟩ := x
      simp only at c0
      clear hx hdr
      have ip : (p : Int) < n := by omega
      have hF := HF.out
      rw [HDR.out] at hF
      have HF' : Hid (bs ++ fwd s ((op, xa, xb) :: l.drop (p + 1)) = fwd 3 l) := hF
      have HR' := HR.out
      rw [show n - p = (n - (p + 1)) + 1 from by omega] at HR'
      have HRR : Hid (wr.ownsRow gs 4 1 (.slice (some ⟨gs, 0, none⟩) n n) n (boCells (rowF bs (n - (p + 1) + 1)))) := HR'
      clear hF HF HR HR'
      by_cases ho : op = 32
      · by_cases hs3 : s < 3
        · go_wp2
          go_roundg (gk - 1)
          case measure => omega
          case rel =>
            refine ⟨p + 1, s + 1, bs ++ [true], by omega, by go_num, by go_num, by omega, ?_, ?_, ?_, ?_⟩
            · unfold Hid; rw [List.length_append, HBL.out]; rfl
            · have h := HF'.out; rw [fwd, if_pos ho, if_pos hs3] at h; unfold Hid; rw [← h]; simp
            · have h := (HRR.out.stored p (.bool true)).1; rw [boCells_set, ← HBL.out, rowF_set] at h; unfold Hid; rw [← HBL.out]; exact h
            · exact HB.out.setCell (Nat.le_refl _) _
        · go_wp2
          go_roundg (gk - 1)
          case measure => omega
          case rel =>
            refine ⟨p + 1, s, bs ++ [false], by omega, by go_num, rfl, by omega, ?_, ?_, ?_, HB⟩
            · unfold Hid; rw [List.length_append, HBL.out]; rfl
            · have h := HF'.out; rw [fwd, if_pos ho, if_neg hs3] at h; unfold Hid; rw [← h]; simp
            · have h := HRR.out; rw [rowF_skip] at h; exact h
      · go_wp2
        go_roundg (gk - 1)
        case measure => omega
        case rel =>
          refine ⟨p + 1, 0, bs ++ [true], by omega, by go_num, rfl, by omega, ?_, ?_, ?_, ?_⟩
          · unfold Hid; rw [List.length_append, HBL.out]; rfl
          · have h := HF'.out; rw [fwd, if_neg ho] at h; unfold Hid; rw [← h]; simp
          · have h := (HRR.out.stored p (.bool true)).1; rw [boCells_set, ← HBL.out, rowF_set] at h; unfold Hid; rw [← HBL.out]; exact h
          · exact HB.out.setCell (Nat.le_refl _) _
    · have hpn : p = n := by omega
      have h1 := HR.out
      have h2 := HF.out
      rw [hpn, Nat.sub_self] at h1
      rw [hpn, List.drop_eq_nil_of_le (by rw [HL.out]; exact Nat.le_refl _), fwd, List.append_nil] at h2
      rw [h2, rowF, List.replicate_zero, List.append_nil] at h1
      go_wp2
      exact HC.out _ _ _ _ _ _ _ _ _ _ _ _ _ _ _ _ _ _ _ _ _ _ _ h1 HB.out
set_option maxHeartbeats 20000000 in
set_option maxRecDepth 8000 in
theorem mloop2 (code : Code) (hcode : Try.f10.body.bind (findBlock 2) = some code) (C : Act → World → Prop) (w : World) (n gs co : Nat) (ao : Option Addr) (l : List (Int × Int × Int)) (F : List Bool)
    (u0 u1 u2 u3 u4 u5 u6 u7 u8 u9 u10 u12 u13 u16 u17 u20 u21 u22 u23 u24 u25 u26 u27 u28 u29 u30 u31 u32 u33 u34 u35 u36 u37 u38 u39 u40 u41 u42 u43 u44 u45 u46 u47 u48 u49 u50 u51 u52 u53 u54 u55 u56 u57 u58 u59 u60 u61 u62 u63 u64 u65 u66 u67 u68 u69 u70 u71 u72 u73 u74 u75 u76 u77 u78 u79 u80 u81 u82 u83 u84 u85 u86 u87 u88 u89 u90 u91 u92 u93 u94 u95 u96 u97 u98 u99 u100 u101 u102 u103 u104 u105 u106 u107 u108 u109 u110 u111 u112 u113 u114 u115 u116 u117 u118 u119 u120 u121 u122 u123 u124 u125 u126 u127 u128 u129 u130 u131 u132 u133 u134 u135 u136 u137 u138 u139 u140 u141 u142 u143 u144 u145 u146 u147 u148 u149 u150 u151 u152 u153 u154 u155 u156 u157 u158 u159 u160 u161 u162 u163 u164 u165 u166 u167 u168 u169 u170 u171 u172 u173 u174 u175 u176 u177 u178 u179 u180 u181 u182 u183 u184 u185 u186 u187 u188 u189 u190 u191 u192 u193 : Value)
    (HL : Hid (l.length = n)) (HLF : Hid (F.length = n)) (hn : n ≤ 2097152) (HO : Hid (RowAt w gs ao (opCells l))) (HS : Hid (w.ownsRow gs 4 1 (.slice (some ⟨gs, 0, none⟩) n n) n (boCells F)))
    (hC : ∀ (v18 v19 v65 v66 v67 v68 v69 v70 v71 v72 v73 v74 v75 v76 v77 v78 v79 v80 : Value) (wc : World), wc.ownsRow gs 4 1 (.slice (some ⟨gs, 0, none⟩) n n) n (boCells (orL F (bwd l).1)) → Below gs w wc → C ⟨#[u0, u1, u2, u3, u4, u5, u6, u7, u8, u9, u10, .slice ao n co, u12, u13, .int .i64 n, .slice (some ⟨gs, 0, none⟩) n n, u16, u17, v18, v19, u20, u21, u22, u23, u24, u25, u26, u27, u28, u29, u30, u31, u32, u33, u34, u35, u36, u37, u38, u39, u40, u41, u42, u43, u44, u45, u46, u47, u48, u49, u50, u51, u52, u53, u54, u55, u56, u57, u58, u59, u60, u61, u62, u63, u64, v65, v66, v67, v68, v69, v70, v71, v72, v73, v74, v75, v76, v77, v78, v79, v80, u81, u82, u83, u84, u85, u86, u87, u88, u89, u90, u91, u92, u93, u94, u95, u96, u97, u98, u99, u100, u101, u102, u103, u104, u105, u106, u107, u108, u109, u110, u111, u112, u113, u114, u115, u116, u117, u118, u119, u120, u121, u122, u123, u124, u125, u126, u127, u128, u129, u130, u131, u132, u133, u134, u135, u136, u137, u138, u139, u140, u141, u142, u143, u144, u145, u146, u147, u148, u149, u150, u151, u152, u153, u154, u155, u156, u157, u158, u159, u160, u161, u162, u163, u164, u165, u166, u167, u168, u169, u170, u171, u172, u173, u174, u175, u176, u177, u178, u179, u180, u181, u182, u183, u184, u185, u186, u187, u188, u189, u190, u191, u192, u193], []⟩ wc) :
    Code.wp Try.prog code (OnlyN C) ⟨#[u0, u1, u2, u3, u4, u5, u6, u7, u8, u9, u10, .slice ao n co, u12, u13, .int .i64 n, .slice (some ⟨gs, 0, none⟩) n n, u16, u17, .int .i64 3, .int .i64 ((n : Int) - 1), u20, u21, u22, u23, u24, u25, u26, u27, u28, u29, u30, u31, u32, u33, u34, u35, u36, u37, u38, u39, u40, u41, u42, u43, u44, u45, u46, u47, u48, u49, u50, u51, u52, u53, u54, u55, u56, u57, u58, u59, u60, u61, u62, u63, u64, u65, u66, u67, u68, u69, u70, u71, u72, u73, u74, u75, u76, u77, u78, u79, u80, u81, u82, u83, u84, u85, u86, u87, u88, u89, u90, u91, u92, u93, u94, u95, u96, u97, u98, u99, u100, u101, u102, u103, u104, u105, u106, u107, u108, u109, u110, u111, u112, u113, u114, u115, u116, u117, u118, u119, u120, u121, u122, u123, u124, u125, u126, u127, u128, u129, u130, u131, u132, u133, u134, u135, u136, u137, u138, u139, u140, u141, u142, u143, u144, u145, u146, u147, u148, u149, u150, u151, u152, u153, u154, u155, u156, u157, u158, u159, u160, u161, u162, u163, u164, u165, u166, u167, u168, u169, u170, u171, u172, u173, u174, u175, u176, u177, u178, u179, u180, u181, u182, u183, u184, u185, u186, u187, u188, u189, u190, u191, u192, u193], []⟩ w := by
  have hc0 := Option.some.inj (show some _ = some code from hcode)
  subst hc0
  clear hcode
  have HC : Hid (∀ (v18 v19 v65 v66 v67 v68 v69 v70 v71 v72 v73 v74 v75 v76 v77 v78 v79 v80 : Value) (wc : World), wc.ownsRow gs 4 1 (.slice (some ⟨gs, 0, none⟩) n n) n (boCells (orL F (bwd l).1)) → Below gs w wc → C ⟨#[u0, u1, u2, u3, u4, u5, u6, u7, u8, u9, u10, .slice ao n co, u12, u13, .int .i64 n, .slice (some ⟨gs, 0, none⟩) n n, u16, u17, v18, v19, u20, u21, u22, u23, u24, u25, u26, u27, u28, u29, u30, u31, u32, u33, u34, u35, u36, u37, u38, u39, u40, u41, u42, u43, u44, u45, u46, u47, u48, u49, u50, u51, u52, u53, u54, u55, u56, u57, u58, u59, u60, u61, u62, u63, u64, v65, v66, v67, v68, v69, v70, v71, v72, v73, v74, v75, v76, v77, v78, v79, v80, u81, u82, u83, u84, u85, u86, u87, u88, u89, u90, u91, u92, u93, u94, u95, u96, u97, u98, u99, u100, u101, u102, u103, u104, u105, u106, u107, u108, u109, u110, u111, u112, u113, u114, u115, u116, u117, u118, u119, u120, u121, u122, u123, u124, u125, u126, u127, u128, u129, u130, u131, u132, u133, u134, u135, u136, u137, u138, u139, u140, u141, u142, u143, u144, u145, u146, u147, u148, u149, u150, u151, u152, u153, u154, u155, u156, u157, u158, u159, u160, u161, u162, u163, u164, u165, u166, u167, u168, u169, u170, u171, u172, u173, u174, u175, u176, u177, u178, u179, u180, u181, u182, u183, u184, u185, u186, u187, u188, u189, u190, u191, u192, u193], []⟩ wc) := hC
  clear hC
  go_wp2
  go_loopg [18, 19] n (fun q vs vp wr => ∃ (s : Nat), q ≤ n ∧ vp = .int .i64 ((q : Int) - 1) ∧ vs = .int .i64 s ∧ s ≤ 3 ∧ Hid (s = (bwd (l.drop q)).2) ∧ Hid (wr.ownsRow gs 4 1 (.slice (some ⟨gs, 0, none⟩) n n) n (boCells (rowB F l q))) ∧ Hid (Below gs w wr))
  case atStart => exact ⟨3, by omega, rfl, rfl, by omega, by unfold Hid; rw [List.drop_eq_nil_of_le (by rw [HL.out]; exact Nat.le_refl _)]; rfl, by unfold Hid rowB; rw [List.take_of_length_le (by rw [HLF.out]; exact Nat.le_refl _), List.drop_eq_nil_of_le (by rw [HLF.out]; exact Nat.le_refl _)]; simpa [orL] using HS.out, Below.refl _ _⟩
  case round =>
    obtain ⟨s, hk, rfl, rfl, hs, HSD, HR, HB⟩ := hrel
    obtain ⟨Q, rfl⟩ : ∃ Q, Q = gk := ⟨_, rfl⟩
    by_cases hlt : 0 < Q
    · obtain ⟨p, rfl⟩ : ∃ p, Q = p + 1 := ⟨Q - 1, by omega⟩
      obtain ⟨x, hx⟩ : ∃ x, l[p]? = some x := ⟨l[p]'(by rw [HL.out]; exact hk), by simp⟩
      obtain ⟨fb, hfb⟩ : ∃ fb, F[p]? = some fb := ⟨F[p]'(by rw [HLF.out]; exact hk), by simp⟩
      obtain ⟨go, rfl, hgo, c0⟩ := HO.out p _ (opCells_at hx)
      have c0 := (HB.out.cell (p := ⟨go, p, none⟩) hgo).trans c0
      have hrl := rowB_len (F := F) (l := l) (by rw [HLF.out, HL.out]) (p + 1)
      obtain ⟨ob, t0⟩ : ∃ v, wr.cell? ⟨gs, p, none⟩ = some v := ⟨(boCells (rowB F l (p + 1)))[p]'(by rw [boCells_length, hrl, HL.out]; omega), by rw [HR.out.cellAt _ (by omega)]; simp⟩
      have f0 := HR.out.frozenAt p
      have hst := rowB_step hx hfb
      rw [← HSD.out] at hst
      have HST : Hid _ := hst
      obtain ⟨op, xa, xb⟩ := x
      simp only at c0
      clear hx hfb hst hrl
      have ip : (p : Int) < n := by omega
      rw [show ((p + 1 : Nat) : Int) - 1 = (p : Int) from by omega]
      by_cases ho : op = 32
      · by_cases hs3 : s < 3
        · have hq := HST.out.2.1 ho hs3
          have HQ : Hid _ := hq
          clear hq HST
          go_wp2
          go_roundg p
          case measure => omega
          case rel =>
            refine ⟨s + 1, by omega, rfl, by go_num, by omega, HQ.out.2.symm, ?_, ?_⟩
            · have h := (HR.out.stored p (.bool true)).1; rw [boCells_set, ← HQ.out.1] at h; exact h
            · exact HB.out.setCell (Nat.le_refl _) _
        · have hq := HST.out.2.2 ho hs3
          have HQ : Hid _ := hq
          clear hq HST
          go_wp2
          go_roundg p
          case measure => omega
          case rel =>
            refine ⟨s, by omega, rfl, rfl, by omega, HQ.out.2.symm, ?_, HB⟩
            have h := HR.out; rw [← HQ.out.1] at h; exact h
      · have hq := HST.out.1 ho
        have HQ : Hid _ := hq
        clear hq HST
        go_wp2
        go_roundg p
        case measure => omega
        case rel =>
          refine ⟨0, by omega, rfl, rfl, by omega, HQ.out.2.symm, ?_, HB⟩
          have h := HR.out; rw [← HQ.out.1] at h; exact h
    · have hq0 : Q = 0 := by omega
      subst hq0
      have h1 := HR.out
      rw [rowB] at h1
      simp only [List.take_zero, List.nil_append, List.drop_zero] at h1
      go_wp2
      exact HC.out _ _ _ _ _ _ _ _ _ _ _ _ _ _ _ _ _ _ _ h1 HB.out
end Go.Proofs.Qxb6602907a
