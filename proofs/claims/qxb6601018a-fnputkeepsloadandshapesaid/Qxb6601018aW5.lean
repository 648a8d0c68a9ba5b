import Derived.Test.Qxb6601018aW4
namespace Go.Proofs.Qxb6601018a
open Go.RowKit
set_option linter.unusedVariables false

theorem flat_zero : ∀ n : Nat, flatP (List.replicate n (0, 0)) = List.replicate (n * 2) (.int .u64 0)
  | 0 => rfl
  | n + 1 => by
    rw [List.replicate_succ, flatP, flat_zero n, show (n + 1) * 2 = n * 2 + 1 + 1 from by omega, List.replicate_succ, List.replicate_succ]
theorem made_zero (n : Nat) : (madeCells (Value.agg #[.int .u64 0, .int .u64 0]).cells (n * 2)).toList = flatP (List.replicate n (0, 0)) := by
  rw [flat_zero]
  apply List.ext_getElem?
  intro k
  by_cases hk : k < n * 2
  · have : k % 2 = 0 ∨ k % 2 = 1 := by omega
    rcases this with h | h <;> simp [madeCells, hk, Value.cells, h]
  · simp [madeCells, hk]
theorem occ_zero (n : Nat) : occ (List.replicate n (0, 0)) = 0 := by
  unfold occ
  rw [List.countP_eq_zero]
  intro p hp
  have := List.eq_of_mem_replicate hp
  simp [this]
theorem wf_zero (n : Nat) : Wf (List.replicate n (0, 0)) := ⟨fun p hp => by
  have := List.eq_of_mem_replicate hp
  subst this
  simp⟩
theorem SRel.rebase {B bx g go S O : Nat} {os0 : List Pl} {tot : Nat} {w w1 wr : World} {ps os : List Pl} {n nx : Nat} (h : SRel B bx g go S O os0 tot w1 wr ps os n nx) (hb : Below B w w1) : SRel B bx g go S O os0 tot w wr ps os n nx :=
  ⟨h.ix, h.rp, h.ro, h.lp, h.lo, h.oc, h.tt, h.wp, h.wo, h.fr, hb.trans h.below⟩
theorem StepR.rebase {B bx g go S O : Nat} {os0 : List Pl} {tot nx0 : Nat} {w w1 w' : World} (h : StepR B bx g go S O os0 tot nx0 w1 w') (hb : Below B w w1) : StepR B bx g go S O os0 tot nx0 w w' := by
  obtain ⟨ps, n, h1, h2, h3, h4, h5, h6, h7⟩ := h
  refine ⟨ps, n, h1, h2, h3, h4, h5, hb.trans h6, ?_⟩
  rcases h7 with h7 | ⟨os, nx, h8, h9⟩
  · exact .inl h7
  · exact .inr ⟨os, nx, h8.rebase hb, h9⟩

set_option maxHeartbeats 4000000 in
theorem resize50 (B bx g S e : Nat) (ps : List Pl) (n nx : Nat) (w : World) (hix : Ix w bx (.slice (some ⟨g, 0, none⟩) S S) n (.slice none 0 0) nx) (hr : PRow w B g ps) (hl : ps.length = S) (hoc : occ ps = n) (hwf : Wf ps) (HE : Hid (S = 2 ^ e)) (he : 3 ≤ e ∧ e ≤ 13) (hbx : B ≤ bx) (h1 : bx ≠ g) :
    Calls Try.prog 50 #[.pointer (some ⟨bx, 0, none⟩), .int .i64 (2 * (S : Int))] w fun e w' => e = .returned (.tuple #[]) ∧ ∃ g2, g2 ≠ bx ∧ g2 ≠ g ∧ StepR B bx g2 g (2 * S) S ps n 0 w w' := by
  have hS8 : 8 ≤ S := by rw [HE.out]; exact Nat.pow_le_pow_right (n := 2) (by decide) he.1
  have hSb : S ≤ 8192 := by rw [HE.out]; exact Nat.pow_le_pow_right (n := 2) (by decide) he.2
  have hxl := hix.lt
  have hgl := hr.lt
  have HIX : Hid (Ix w bx (.slice (some ⟨g, 0, none⟩) S S) n (.slice none 0 0) nx) := hix
  have HR : Hid (PRow w B g ps) := hr
  have HL : Hid (ps.length = S) := hl
  have HOC : Hid (occ ps = n) := hoc
  have HW : Hid (Wf ps) := hwf
  obtain ⟨c0, c1, c2, c3, f0, f1, f2, f3⟩ := hix
  clear hr hl hoc hwf
  obtain ⟨i0, hi, hz0, hz1, hz2⟩ := info_parts Try.info59
  obtain ⟨S2, hS2, HS2⟩ : ∃ S2 : Nat, (2 * (S : Int) = (S2 : Int)) ∧ Hid (S2 = 2 * S) := ⟨2 * S, by omega, rfl⟩
  have hS2b : S2 ≤ 16384 := by rw [HS2.out]; omega
  rw [hS2]
  clear hS2
  go_enter Try.func50, Try.ntmps50
  go_wp2_with (at_make; refine wpList_make_full _ rfl _ _ 52 rfl B 59 i0 _ 2 Try.underlying52 hi hz0 hz1 .i64 .i64 _ _ S2 rfl rfl rfl rfl (by rw [hz2]; omega) (by unfold maxLen; omega) (by simp; omega) ?_; intro w0 hown0 hgrow0; have hI := ((HIX.out.ov_ (.slice (some ⟨g, 0, none⟩) S S)).nx_ 0).kept hgrow0 (by simp); obtain ⟨d0, d1, d2, d3, k0, k1, k2, k3⟩ := hI; have HG0 : Hid _ := hgrow0; have HO0 : Hid _ := hown0; clear hgrow0 hown0 c0 c1 c2 c3 f0 f1 f2 f3)
  have hnS : n ≤ S := by
    have := List.countP_le_length (p := fun p : Pl => p.2 != 0) (l := ps)
    have h3 := HOC.out
    have h4 := HL.out
    unfold occ at h3
    omega
  obtain ⟨wA, hwA⟩ : ∃ wA, wA = (w.setCell ⟨bx, 2, none⟩ (.slice (some ⟨g, 0, none⟩) S S)).setCell ⟨bx, 3, none⟩ (.int .i64 0) := ⟨_, rfl⟩
  have hsA : wA.heap.size = w.heap.size := by rw [hwA]; simp
  have hG : wA.grownBy w0 none := by rw [hwA]; exact HG0.out
  have hO : w0.ownsRow B 59 2 (.slice (some ⟨wA.heap.size, 0, none⟩) S2 S2) S2 (madeCells (Value.agg #[.int .u64 0, .int .u64 0]).cells (S2 * 2)).toList := by rw [hwA]; exact HO0.out
  rw [hsA, made_zero] at hO
  obtain ⟨g2, hg2⟩ : ∃ g2, g2 = w.heap.size := ⟨_, rfl⟩
  rw [← hg2] at hO ⊢
  have r0 : PRow w0 B g2 (List.replicate S2 (0, 0)) := by
    unfold PRow
    rw [List.length_replicate]
    exact hO
  have hne1 : bx ≠ g2 := by omega
  have hne2 : g2 ≠ g := by omega
  have o0 : PRow wA B g ps := by rw [hwA]; exact (HR.out.other (b := bx) (j := 2) _ h1).other (b := bx) (j := 3) _ h1
  have o1 : PRow w0 B g ps := o0.kept hG (by simp)
  have hI0 : Ix w0 bx (.slice (some ⟨g, 0, none⟩) S S) n (.slice (some ⟨g, 0, none⟩) S S) 0 := ⟨d0, d1, d2, d3, k0, k1, k2, k3⟩
  have hI1 := (hI0.pv_ (.slice (some ⟨g2, 0, none⟩) S2 S2)).n_ 0
  have r1 := (r0.other (b := bx) (j := 0) (.slice (some ⟨g2, 0, none⟩) S2 S2) hne1).other (b := bx) (j := 1) (.int .i64 0) hne1
  have o2 := (o1.other (b := bx) (j := 0) (.slice (some ⟨g2, 0, none⟩) S2 S2) h1).other (b := bx) (j := 1) (.int .i64 0) h1
  have hb0 : Below B w wA := by rw [hwA]; exact ((Below.refl B w).setCell (p := ⟨bx, 2, none⟩) hbx _).setCell (p := ⟨bx, 3, none⟩) hbx _
  have hb1 : Below B w w0 := hb0.trans (grown_below hG (by omega) (by simp))
  have hb2 : Below B w ((w0.setCell ⟨bx, 0, none⟩ (.slice (some ⟨g2, 0, none⟩) S2 S2)).setCell ⟨bx, 1, none⟩ (.int .i64 0)) := (hb1.setCell (p := ⟨bx, 0, none⟩) hbx _).setCell (p := ⟨bx, 1, none⟩) hbx _
  have hlv := live_le_occ ps
  have hs : SRel B bx g2 g S2 S ps n _ _ (List.replicate S2 (0, 0)) ps 0 0 := ⟨hI1, r1, o2, by simp, HL.out, occ_zero S2, by rw [HOC.out] at hlv; omega, wf_zero S2, HW.out, fun f hf => hf, Below.refl _ _⟩
  have hst := step48 B bx g2 g S2 S (e + 1) (List.replicate S2 (0, 0)) ps n 0 0 _ hs (show S2 = 2 ^ (e + 1) by rw [HS2.out, HE.out, Nat.pow_succ]; omega) (by omega) (by omega) (by rw [HS2.out]; omega) (by omega) hbx hne1 h1 hne2
  refine hst.mono ?_
  rintro e1 w2 ⟨rfl, hstep⟩
  have hfin : StepR B bx g2 g (2 * S) S ps n 0 w w2 := by
    have := hstep.rebase hb2
    rw [HS2.out] at this
    exact this
  clear hst hs hI1 hI0 r1 o2 hb2 d0 d1 d2 d3 k0 k1 k2 k3 hO r0 hG
  go_wp2
  (try simp only [Exit.inBlock, Exit.then])
  refine bodyPost_end (results_none rfl _ _ _) rfl ?_
  exact ⟨rfl, g2, Ne.symm hne1, hne2, hfin⟩
end Go.Proofs.Qxb6601018a
