import Derived.Test.Qxb6600979aV3
namespace Go.Proofs.Qxb6600979a
open Go.RowKit
set_option linter.unusedVariables false

set_option maxHeartbeats 8000000 in
set_option maxRecDepth 8000 in
theorem ins18 (g L c : Nat) (M : List (Sl × Sl)) (r : Sl × Sl) (w : World) (HL : Hid (L = M.length)) (hL : L ≤ 1048576) (hr : RowR w (some ⟨g, 0, none⟩) M) (ha : AllAt w M) (hr1 : SlAt w r.1) (hr2 : SlAt w r.2) (hex : ∃ p ∈ M, wthB p.1.l p.2.pb (pl r) = true) :
    Calls Try.prog 18 #[.slice (some ⟨g, 0, none⟩) L c, rv r] w fun e w' => e = .returned (.bool true) ∧ Below w.heap.size w w' := by
  have HR : Hid (RowR w (some ⟨g, 0, none⟩) M) := hr
  have HA : Hid (AllAt w M) := ha
  have HX : Hid (SlAt w r.1) := hr1
  have HY : Hid (SlAt w r.2) := hr2
  have HEx : Hid (∃ p ∈ M, wthB p.1.l p.2.pb (pl r) = true) := hex
  clear hr ha hr1 hr2 hex
  obtain ⟨rr, HRR⟩ : ∃ rr, Hid (rr = r) := ⟨_, rfl⟩
  rw [← HRR.out] at HX HY HEx
  obtain ⟨⟨xa, xn, xc, xl⟩, ⟨ya, yn, yc, yl⟩⟩ := r
  dsimp only [rv, Sl.v]
  go_enter Try.func18, Try.ntmps18
  go_wp2
  obtain ⟨W, hW⟩ : ∃ W, W = w.alloc (Obj.cells #[Value.slice xa xn xc, Value.slice ya yn yc] 37) := ⟨_, rfl⟩
  have HBW : Hid (Below w.heap.size w W) := by rw [hW]; exact (Below.refl _ _).alloc (Nat.le_refl _) _
  have hzW : w.heap.size < W.heap.size := by rw [hW]; simp
  have HC1 : Hid (W.cell? ⟨w.heap.size, 0, none⟩ = some (.slice xa xn xc)) := by rw [hW]; unfold Hid; simp [go_sem]
  have HC2 : Hid (W.cell? ⟨w.heap.size, 1, none⟩ = some (.slice ya yn yc)) := by rw [hW]; unfold Hid; simp [go_sem]
  rw [← hW]
  clear hW
  go_loopw [5] (fun i wr => ∃ (k : Nat), k ≤ L ∧ i = .int .i64 k ∧ Hid (∀ j p, j < k → M[j]? = some p → wthB p.1.l p.2.pb (pl rr) = false) ∧ Hid (Below W.heap.size W wr)) (fun i _ => L - (intOf i).toNat)
  case atStart => exact ⟨0, by omega, rfl, fun j p h => (by omega), Below.refl _ _⟩
  case round =>
    obtain ⟨k, hk, rfl, HPr, HB⟩ := hrel
    by_cases hlt : k < L
    · obtain ⟨p, hp⟩ : ∃ p, M[k]? = some p := ⟨M[k]'(by rw [← HL.out]; exact hlt), by simp⟩
      have HBr : Hid (Below w.heap.size w wr) := HBW.out.trans (HB.out.mono (by omega))
      obtain ⟨b, o, e, c1, c2⟩ := HR.out k p hp
      have hbl : b < w.heap.size := World.block_lt_of_cell? w _ c1
      simp only [Option.some.injEq, Addr.mk.injEq, and_true] at e
      obtain ⟨rfl, rfl⟩ := e
      replace c1 := (HBr.out.cell (p := ⟨g, 0 + k * 2, none⟩) hbl).trans c1
      replace c2 := (HBr.out.cell (p := ⟨g, 0 + k * 2 + 1, none⟩) hbl).trans c2
      have c3 := (HB.out.cell (p := ⟨w.heap.size, 0, none⟩) hzW).trans HC1.out
      have c4 := (HB.out.cell (p := ⟨w.heap.size, 1, none⟩) hzW).trans HC2.out
      have hap := HA.out p (List.mem_of_getElem? hp)
      have hcon : ∀ W', Below w.heap.size w W' → Calls Try.prog 29 #[p.1.v, p.2.v, rv rr] W' fun e w' => e = .returned (.bool (wthB p.1.l p.2.pb (pl rr))) ∧ Below W'.heap.size W' w' := fun W' hW' => within29 p.1 p.2 rr W' (hap.1.below hW') (hap.2.below hW') (HX.out.below hW') (HY.out.below hW')
      have hf14 := fun W => from14 p W
      have ht15 := fun W => to15 p W
      have HP : Hid (M[k]? = some p) := hp
      have ik : (k : Int) < L := by omega
      have hzr : w.heap.size < wr.heap.size := Nat.lt_of_lt_of_le hzW HB.out.size
      have hgw : g < wr.heap.size := by omega
      have hgw1 : g < wr.heap.size + 1 := by omega
      have hgw2 : g < wr.heap.size + 1 + 1 := by omega
      have hzr1 : w.heap.size < wr.heap.size + 1 := by omega
      have hzr2 : w.heap.size < wr.heap.size + 1 + 1 := by omega
      clear hp hap
      obtain ⟨bw, hbw'⟩ : ∃ bw, bw = wthB p.1.l p.2.pb (pl rr) := ⟨_, rfl⟩
      have HBW' : Hid (bw = wthB p.1.l p.2.pb (pl rr)) := hbw'
      rw [← hbw'] at hcon
      clear hbw'
      rw [HRR.out] at hcon
      have HNx : Hid (wthB p.1.l p.2.pb (pl rr) = false → Hid (∀ j p, j < k + 1 → M[j]? = some p → wthB p.1.l p.2.pb (pl rr) = false)) := fun h j q hj hjq => by
        by_cases e : j = k
        · subst e
          rw [HP.out] at hjq
          cases hjq
          exact h
        · exact HPr.out j q (by omega) hjq
      obtain ⟨⟨pa, pn, pc, plx⟩, ⟨qa, qn, qc, qlx⟩⟩ := p
      unfold rv at hcon hf14 ht15
      unfold Sl.v at hcon hf14 ht15 c1 c2
      simp only [Nat.zero_add] at hcon hf14 ht15 c1 c2
      have hBc : ∀ o1 o2, Below w.heap.size w ((wr.alloc o1).alloc o2).drew := fun o1 o2 => ((HBr.out.alloc (by omega) o1).alloc (by simp; omega) o2).drew
      have hBc' : ∀ o1 o2, Below W.heap.size W ((wr.alloc o1).alloc o2).drew := fun o1 o2 => ((HB.out.alloc HB.out.size o1).alloc (Nat.le_trans HB.out.size (by simp)) o2).drew
      cases bw
      · go_wp2
        go_region_held3 (fun w' => w'.cell? ⟨g, k * 2, none⟩ = some (.slice pa pn pc) ∧ w'.cell? ⟨g, k * 2 + 1, none⟩ = some (.slice qa qn qc) ∧ w'.cell? ⟨w.heap.size, 0, none⟩ = some (.slice xa xn xc) ∧ w'.cell? ⟨w.heap.size, 1, none⟩ = some (.slice ya yn yc)) (simp [go_sem, World.cell?_alloc_past, *]) (first
          | (go_at_call 14; refine (hf14 _).mono ?_; rintro e w' ⟨rfl, o1, rfl⟩)
          | (go_at_call 15; refine (ht15 _).mono ?_; rintro e w' ⟨rfl, o2, rfl⟩)
          | (go_at_call 29; refine (hcon _ (hBc _ _)).mono ?_; rintro e w6 ⟨rfl, hB6⟩; have HB6 : Hid (Below wr.heap.size wr w6) := ((((Below.refl wr.heap.size wr).alloc (Nat.le_refl _) o1).alloc (by simp) o2).drew).trans (hB6.mono (by simp; omega)); have e1 := (HB6.out.cell (p := ⟨g, k * 2, none⟩) hgw).trans c1; have e2 := (HB6.out.cell (p := ⟨g, k * 2 + 1, none⟩) hgw).trans c2; have e3 := (HB6.out.cell (p := ⟨w.heap.size, 0, none⟩) hzr).trans c3; have e4 := (HB6.out.cell (p := ⟨w.heap.size, 1, none⟩) hzr).trans c4; clear hB6))
        all_goals
          go_wp2
          go_roundw
          case rel => exact ⟨k + 1, by omega, by go_num, HNx.out HBW'.out.symm, HB.out.trans (HB6.out.mono HB.out.size)⟩
          case measure => go_light; simp only [intOf]; omega
      · go_wp2
        go_region_held3 (fun w' => w'.cell? ⟨g, k * 2, none⟩ = some (.slice pa pn pc) ∧ w'.cell? ⟨g, k * 2 + 1, none⟩ = some (.slice qa qn qc) ∧ w'.cell? ⟨w.heap.size, 0, none⟩ = some (.slice xa xn xc) ∧ w'.cell? ⟨w.heap.size, 1, none⟩ = some (.slice ya yn yc)) (simp [go_sem, World.cell?_alloc_past, *]) (first
          | (go_at_call 14; refine (hf14 _).mono ?_; rintro e w' ⟨rfl, o1, rfl⟩)
          | (go_at_call 15; refine (ht15 _).mono ?_; rintro e w' ⟨rfl, o2, rfl⟩)
          | (go_at_call 29; refine (hcon _ (hBc _ _)).mono ?_; rintro e w6 ⟨rfl, hB6⟩; have HB6 : Hid (Below wr.heap.size wr w6) := ((((Below.refl wr.heap.size wr).alloc (Nat.le_refl _) o1).alloc (by simp) o2).drew).trans (hB6.mono (by simp; omega)); have e1 := (HB6.out.cell (p := ⟨g, k * 2, none⟩) hgw).trans c1; have e2 := (HB6.out.cell (p := ⟨g, k * 2 + 1, none⟩) hgw).trans c2; have e3 := (HB6.out.cell (p := ⟨w.heap.size, 0, none⟩) hzr).trans c3; have e4 := (HB6.out.cell (p := ⟨w.heap.size, 1, none⟩) hzr).trans c4; clear hB6))
        all_goals
          go_wp2
          go_ret
          exact ⟨rfl, HBr.out.trans (HB6.out.mono (by omega))⟩
    · exfalso
      have hkN : k = L := by omega
      obtain ⟨p, hp, hc⟩ := HEx.out
      obtain ⟨j, hj, e⟩ := List.getElem_of_mem hp
      have := HPr.out j p (by rw [hkN, HL.out]; exact hj) (by rw [List.getElem?_eq_getElem hj, e])
      rw [hc] at this
      cases this
end Go.Proofs.Qxb6600979a
