import Derived.Test.Qxb6602907aN3
import Derived.Test.Qxb6602907aW7
namespace Go.Proofs.Qxb6602907a
open Go.RowKit
set_option linter.unusedVariables false
attribute [local go_sem ↓] Go.wp_at_zero Go.wp_at_succ

theorem keepSeg_length : ∀ (n : Nat) (i j : Int), (keepSeg n i j).length = n
  | 0, _, _ => rfl
  | n + 1, i, j => by simp [keepSeg, keepSeg_length n]
theorem delSeg_length : ∀ (n : Nat) (i j : Int), (delSeg n i j).length = n
  | 0, _, _ => rfl
  | n + 1, i, j => by simp [delSeg, delSeg_length n]
theorem insSeg_length : ∀ (n : Nat) (i j : Int), (insSeg n i j).length = n
  | 0, _, _ => rfl
  | n + 1, i, j => by simp [insSeg, insSeg_length n]
theorem scr_len {nF nT : Int} : ∀ (cs : List Ch) (fst : Bool) (i j : Int), COK nF nT fst i j cs → 0 ≤ i → i ≤ nF → 0 ≤ j → j ≤ nT → (fst = true → i ≤ 0) → ((scr nF cs i j).length : Int) ≤ (nF - i) + (nT - j)
  | [], _, i, j, hk, hi, hi', hj, hj', _ => by
    rw [scr, keepSeg_length]; omega
  | c :: r, fst, i, j, hk, hi, hi', hj, hj', hf => by
    obtain ⟨hb, hne, hp, hd, hk'⟩ := hk
    have hci : i ≤ c.i0 := by
      cases fst
      · have := hp rfl; omega
      · have := hf rfl; omega
    have ih := scr_len r false c.i1 c.j1 hk' (by omega) (by omega) (by omega) (by omega) (fun h => by cases h)
    rw [scr_cons hci hd hb.2.1 hb.2.2.2.2.1]
    simp only [List.length_append, keepSeg_length, delSeg_length, insSeg_length]
    omega

theorem made_bools (n : Nat) : (madeCells (Value.bool false).cells (n * 1)).toList = boCells (List.replicate n false) := by
  apply List.ext_getElem?
  intro k
  by_cases hk : k < n
  · simp [madeCells, boCells, hk, Value.cells, Nat.mod_one]
  · simp [madeCells, boCells, hk]

set_option maxHeartbeats 20000000 in
set_option maxRecDepth 8000 in
theorem model10 (s1 s2 : ByteArray) (g1 n1 g2 n2 : Nat) (z1 z2 : List Int) (ac : Option Addr) (N cap : Nat) (cs : List Ch) (w : World)
    (hI1 : I32At w g1 0 z1) (HZ1 : Hid (z1.length = n1)) (hT1 : TextOK s1 z1) (hI2 : I32At w g2 0 z2) (HZ2 : Hid (z2.length = n2)) (hT2 : TextOK s2 z2)
    (hn1 : n1 ≤ 1048576) (hn2 : n2 ≤ 1048576) (hp1 : 0 < n1) (hp2 : 0 < n2) (hs1 : s1.size ≤ 1048576) (hs2 : s2.size ≤ 1048576)
    (hc : ChAt w ac cs) (HN : Hid (N = cs.length)) (hn : N ≤ 1048576) (hok : COK ((n1 : Int) - 1) ((n2 : Int) - 1) true 0 0 cs) :
    Calls Try.prog 10 #[.string s1, .slice (some ⟨g1, 0, none⟩) n1 n1, .string s2, .slice (some ⟨g2, 0, none⟩) n2 n2, .slice ac N cap] w fun e w' =>
      ∃ v base, e = .returned v ∧ w.heap.size ≤ base ∧ HunksIn w' base v (modelM s1 z1 s2 z2 (scr ((n1 : Int) - 1) cs 0 0)) ∧ Below w.heap.size w w' := by
  have HI1 : Hid (I32At w g1 0 z1 ∧ TextOK s1 z1) := ⟨hI1, hT1⟩
  have HI2 : Hid (I32At w g2 0 z2 ∧ TextOK s2 z2) := ⟨hI2, hT2⟩
  have hl1 : g1 < w.heap.size := hI1.lt (by rw [HZ1.out]; exact hp1)
  have hl2 : g2 < w.heap.size := hI2.lt (by rw [HZ2.out]; exact hp2)
  have HC : Hid (ChAt w ac cs) := hc
  have HOK : Hid (COK ((n1 : Int) - 1) ((n2 : Int) - 1) true 0 0 cs) := hok
  have hlen := scr_len cs true 0 0 hok (by omega) (by omega) (by omega) (by omega) (fun _ => by omega)
  have HLO : Hid (∀ x ∈ scr ((n1 : Int) - 1) cs 0 0, LineOK ((n1 : Int) - 1) ((n2 : Int) - 1) x) := scr_ok cs true 0 0 hok (by omega) (by omega) (by omega) (fun _ => by omega)
  obtain ⟨l, hl⟩ : ∃ l, l = scr ((n1 : Int) - 1) cs 0 0 := ⟨_, rfl⟩
  obtain ⟨n, HL⟩ : ∃ n, Hid (l.length = n) := ⟨_, rfl⟩
  rw [← hl, HL.out] at hlen
  rw [← hl] at HLO ⊢
  have HSC : Hid (l = scr ((n1 : Int) - 1) cs 0 0) := hl
  clear hI1 hT1 hI2 hT2 hc hok hl
  have hnn : n ≤ 2097152 := by omega
  clear hlen
  obtain ⟨i4, hi, hz0, hz1, hz2⟩ := info_parts Try.info4
  go_enter Try.func10, Try.ntmps10
  go_wp2_with fail
  refine (script15 ((n1 : Int) - 1) ((n2 : Int) - 1) ac N cap cs w HN hn (by omega) (by omega) HC.out HOK.out).mono ?_
  rintro e ws ⟨vo, vf, vt, rfl, hR3, hBs⟩
  rw [← HSC.out] at hR3
  have HR3 : Hid (Rows3 ws w.heap.size vo vf vt l) := hR3
  have HBs : Hid (Below w.heap.size w ws) := hBs
  obtain ⟨ao, co, rfl⟩ := owns_len hR3.1
  obtain ⟨af, cf, rfl⟩ := owns_len hR3.2.1
  obtain ⟨at_, ct, rfl⟩ := owns_len hR3.2.2.1
  have HO : Hid (RowAt ws ws.heap.size ao (opCells l)) := RowAt.of hR3.1 (Nat.le_refl _)
  have HF : Hid (RowAt ws ws.heap.size af (fiCells l)) := RowAt.of hR3.2.1 (Nat.le_refl _)
  have HT : Hid (RowAt ws ws.heap.size at_ (tiCells l)) := RowAt.of hR3.2.2.1 (Nat.le_refl _)
  have hsz : w.heap.size ≤ ws.heap.size := hBs.size
  rw [HL.out]
  clear hR3 hBs HR3
  go_upto_block 0 with (at_make; refine wpList_make_full _ rfl _ _ 51 rfl ws.heap.size 4 i4 _ 1 Try.underlying51 hi hz0 hz1 .i64 .i64 _ _ n rfl rfl rfl rfl (by rw [hz2]; omega) (by unfold maxLen; omega) (Nat.le_refl _) ?_; intro wm hownm hgrowm)
  have HBm : Hid (Below ws.heap.size ws wm) := grown_below hgrowm (Nat.le_refl _) (fun k h => by cases h)
  rw [made_bools] at hownm
  have HOm : Hid _ := hownm
  obtain ⟨gs, HG⟩ : ∃ gs, Hid (gs = ws.heap.size) := ⟨_, rfl⟩
  clear hownm hgrowm
  rw [← HG.out] at HO HF HT hsz HBm HOm ⊢
  have HO0 : Hid (RowAt wm gs ao (opCells l)) := HO.out.below HBm.out
  refine wp_onlyN (mloop1 _ (by rfl) _ wm n gs co ao l _ _ _ _ _ _ _ _ _ _ _ _ _ _ _ _ _ _ _ _ _ _ _ _ _ _ _ _ _ _ _ _ _ _ _ _ _ _ _ _ _ _ _ _ _ _ _ _ _ _ _ _ _ _ _ _ _ _ _ _ _ _ _ _ _ _ _ _ _ _ _ _ _ _ _ _ _ _ _ _ _ _ _ _ _ _ _ _ _ _ _ _ _ _ _ _ _ _ _ _ _ _ _ _ _ _ _ _ _ _ _ _ _ _ _ _ _ _ _ _ _ _ _ _ _ _ _ _ _ _ _ _ _ _ _ _ _ _ _ _ _ _ _ _ _ _ _ _ _ _ _ _ _ _ _ _ _ _ _ _ _ _ _ _ _ _ _ _ _ _ _ _ _ _ _ _ _ _ _ _ _ _ _ _ _ _ _ _ _ HL hnn HO0 HOm ?_)
  intro _ _ _ _ _ _ _ _ _ _ _ _ _ _ _ _ _ _ _ _ _ _ wa hrow1 hBa
  have HS1 : Hid _ := hrow1
  have HBa : Hid (Below gs ws wa) := HBm.out.trans hBa
  clear hrow1 hBa
  have HO1 : Hid (RowAt wa gs ao (opCells l)) := HO.out.below HBa.out
  go_upto_block 2 with fail
  refine wp_onlyN (mloop2 _ (by rfl) _ wa n gs co ao l (fwd 3 l) _ _ _ _ _ _ _ _ _ _ _ _ _ _ _ _ _ _ _ _ _ _ _ _ _ _ _ _ _ _ _ _ _ _ _ _ _ _ _ _ _ _ _ _ _ _ _ _ _ _ _ _ _ _ _ _ _ _ _ _ _ _ _ _ _ _ _ _ _ _ _ _ _ _ _ _ _ _ _ _ _ _ _ _ _ _ _ _ _ _ _ _ _ _ _ _ _ _ _ _ _ _ _ _ _ _ _ _ _ _ _ _ _ _ _ _ _ _ _ _ _ _ _ _ _ _ _ _ _ _ _ _ _ _ _ _ _ _ _ _ _ _ _ _ _ _ _ _ _ _ _ _ _ _ _ _ _ _ _ _ _ _ _ _ _ _ _ _ _ _ _ _ _ _ _ _ _ _ _ _ _ _ _ _ _ _ _ _ _ HL (by unfold Hid; rw [fwd_length]; exact HL.out) hnn HO1 HS1 ?_)
  intro _ _ _ _ _ _ _ _ _ _ _ _ _ _ _ _ _ _ wb hrow2 hBb
  have HBb : Hid (Below gs ws wb) := HBa.out.trans hBb
  have HS2 : Hid (wb.ownsRow gs 4 1 (.slice (some ⟨gs, 0, none⟩) n n) n (boCells (shown l))) := hrow2
  clear hrow2 hBb
  obtain ⟨B, HB⟩ : ∃ B, Hid (B = wb.heap.size) := ⟨_, rfl⟩
  have hgB : gs ≤ B := by rw [HB.out]; exact Nat.le_trans (by rw [HG.out]; exact Nat.le_refl _) HBb.out.size
  have HRd : Hid (Reads wb B ao af at_ (some ⟨gs, 0, none⟩) l (shown l)) := ⟨(HO.out.below HBb.out).mono hgB, (HF.out.below HBb.out).mono hgB, (HT.out.below HBb.out).mono hgB, RowAt.of HS2.out (by rw [HB.out]; exact Nat.le_refl _)⟩
  have HBw : Hid (Below w.heap.size w wb) := HBs.out.trans (HBb.out.mono hsz)
  have HTx : Hid (Texts wb B s1 s2 g1 n1 g2 n2 z1 z2) := ⟨HI1.out.1.below HBw.out hl1, HI2.out.1.below HBw.out hl2, HZ1.out, HZ2.out, HI1.out.2, HI2.out.2, by omega, by omega⟩
  go_upto_block 4 with fail
  refine wp_onlyN (mloop3 _ (by rfl) _ wb s1 s2 g1 n1 g2 n2 n gs co cf ct B ao af at_ z1 z2 l (shown l) _ _ _ _ _ _ _ _ _ _ _ _ _ _ _ _ _ _ _ _ _ _ _ _ _ _ _ _ _ _ _ _ _ _ _ _ _ _ _ _ _ _ _ _ _ _ _ _ _ _ _ _ _ _ _ _ _ _ _ _ _ _ _ _ _ _ _ _ _ _ _ _ _ _ _ _ _ _ _ _ _ _ _ _ _ _ _ _ _ _ _ _ _ _ _ _ _ _ _ _ _ _ _ _ _ _ _ _ _ _ _ _ _ _ _ _ _ _ _ _ _ _ _ _ _ _ _ _ _ _ _ _ _ _ _ _ _ _ _ _ _ _ _ _ _ _ _ _ _ _ _ _ _ _ _ _ _ _ _ _ _ _ _ _ _ _ _ _ _ _ _ _ _ _ _ _ _ _ _ _ _ HB HTx HRd HL (by unfold Hid; rw [shown_length]; exact HL.out) hnn hs1 hs2 hn1 hn2 HLO ?_)
  intro _ _ _ _ _ _ _ _ _ _ _ _ _ _ _ _ _ _ _ _ _ _ _ _ _ _ _ _ _ _ _ _ _ _ _ _ _ _ _ _ _ _ _ _ _ _ _ _ _ _ _ _ _ _ _ _ _ _ _ _ _ _ _ _ _ _ _ _ _ _ _ _ _ _ _ _ _ _ _ _ _ _ _ _ _ _ _ _ _ _ _ _ _ _ _ _ _ _ _ _ _ _ _ _ _ _ _ _ _ _ _ _ _ _ _ _ _ _ _ _ _ vw wc hH hBc
  have HH : Hid (HunksIn wc B vw (m3 s1 z1 s2 z2 n ((shown l).zip l) 0 0)) := hH
  have HBc : Hid (Below w.heap.size w wc) := HBw.out.trans (hBc.mono (by omega))
  clear hH hBc
  go_wp2
  go_ret
  refine ⟨_, B, rfl, by omega, ?_, HBc.out⟩
  unfold modelM
  rw [HL.out]
  exact HH.out
end Go.Proofs.Qxb6602907a
