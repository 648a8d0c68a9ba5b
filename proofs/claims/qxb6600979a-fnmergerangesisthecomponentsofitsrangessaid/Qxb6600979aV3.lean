import Derived.Test.Qxb6600979aV2
namespace Go.Proofs.Qxb6600979a
open Go.RowKit
set_option linter.unusedVariables false

def gtB : Option (List UInt8) → List UInt8 → Bool
  | none, _ => true
  | some v, u => decide (0 < cb v u)
def contB (f : List UInt8) (t : Option (List UInt8)) (u : List UInt8) (x : Rg) : Bool := wthB f t x && (decide (cb x.1 u ≤ 0) && gtB x.2 u)

set_option maxHeartbeats 8000000 in
set_option maxRecDepth 8000 in
theorem cont30 (f t u : Sl) (a : Option Addr) (N c : Nat) (xs : List (Sl × Sl)) (w : World) (HN : Hid (N = xs.length)) (hN : N ≤ 1048576) (hr : RowR w a xs) (ha : AllAt w xs) (hf : SlAt w f) (ht : SlAt w t) (hu : SlAt w u) (hex : ∃ p ∈ xs, contB f.l t.pb u.l (pl p) = true) :
    Calls Try.prog 30 #[f.v, t.v, u.v, .slice a N c] w fun e w' => e = .returned (.bool true) ∧ Below w.heap.size w w' := by
  have HR : Hid (RowR w a xs) := hr
  have HA : Hid (AllAt w xs) := ha
  have HF : Hid (SlAt w f) := hf
  have HT : Hid (SlAt w t) := ht
  have HU : Hid (SlAt w u) := hu
  have HEx : Hid (∃ p ∈ xs, contB f.l t.pb u.l (pl p) = true) := hex
  clear hr ha hf ht hu hex
  obtain ⟨fa, fn, fc, fl⟩ := f
  obtain ⟨ta, tn, tc, tl⟩ := t
  obtain ⟨ua, un, uc, ul⟩ := u
  dsimp only [Sl.v]
  go_enter Try.func30, Try.ntmps30
  go_wp2
  go_loopw [9] (fun i wr => ∃ (k : Nat), k ≤ N ∧ i = .int .i64 k ∧ Hid (∀ j p, j < k → xs[j]? = some p → contB fl (Sl.pb ⟨ta, tn, tc, tl⟩) ul (pl p) = false) ∧ Hid (Below w.heap.size w wr)) (fun i _ => N - (intOf i).toNat)
  case atStart => exact ⟨0, by omega, rfl, fun j p h => (by omega), Below.refl _ _⟩
  case round =>
    obtain ⟨k, hk, rfl, HPr, HB⟩ := hrel
    by_cases hlt : k < N
    · obtain ⟨p, hp⟩ : ∃ p, xs[k]? = some p := ⟨xs[k]'(by rw [← HN.out]; exact hlt), by simp⟩
      obtain ⟨b, o, e, c1, c2⟩ := HR.out k p hp
      subst e
      have hbl : b < w.heap.size := World.block_lt_of_cell? w _ c1
      replace c1 := (HB.out.cell (p := ⟨b, o + k * 2, none⟩) hbl).trans c1
      replace c2 := (HB.out.cell (p := ⟨b, o + k * 2 + 1, none⟩) hbl).trans c2
      have hap := HA.out p (List.mem_of_getElem? hp)
      have hcon := within29 ⟨fa, fn, fc, fl⟩ ⟨ta, tn, tc, tl⟩ p wr (HF.out.below HB.out) (HT.out.below HB.out) (hap.1.below HB.out) (hap.2.below HB.out)
      have HAP : Hid (SlAt w p.1 ∧ SlAt w p.2) := hap
      have HP : Hid (xs[k]? = some p) := hp
      have ik : (k : Int) < N := by omega
      have hbw : b < wr.heap.size := Nat.lt_of_lt_of_le hbl HB.out.size
      clear hp hap
      obtain ⟨bw, hbw'⟩ : ∃ bw, bw = wthB fl (Sl.pb ⟨ta, tn, tc, tl⟩) (pl p) := ⟨_, rfl⟩
      have HBW : Hid (bw = wthB fl (Sl.pb ⟨ta, tn, tc, tl⟩) (pl p)) := hbw'
      simp only [← hbw'] at hcon
      clear hbw'
      have HNx : Hid (contB fl (Sl.pb ⟨ta, tn, tc, tl⟩) ul (pl p) = false → Hid (∀ j p, j < k + 1 → xs[j]? = some p → contB fl (Sl.pb ⟨ta, tn, tc, tl⟩) ul (pl p) = false)) := fun h j q hj hjq => by
        by_cases e : j = k
        · subst e
          rw [HP.out] at hjq
          cases hjq
          exact h
        · exact HPr.out j q (by omega) hjq
      obtain ⟨⟨xa, xn, xc, xl⟩, ⟨ya, yn, yc, yl⟩⟩ := p
      unfold rv Sl.v at hcon
      unfold Sl.v at c1 c2
      simp only at hcon c1 c2
      go_wp2_with fail
      refine hcon.mono ?_
      rintro e w1 ⟨rfl, hB1⟩
      have HB1 : Hid (Below w.heap.size w w1) := HB.out.trans (hB1.mono HB.out.size)
      have d1 := (hB1.cell (p := ⟨b, o + k * 2, none⟩) hbw).trans c1
      have d2 := (hB1.cell (p := ⟨b, o + k * 2 + 1, none⟩) hbw).trans c2
      have HX1 : Hid (SlAt w1 ⟨xa, xn, xc, xl⟩) := HAP.out.1.below HB1.out
      have HY1 : Hid (SlAt w1 ⟨ya, yn, yc, yl⟩) := HAP.out.2.below HB1.out
      have HU1 : Hid (SlAt w1 ⟨ua, un, uc, ul⟩) := HU.out.below HB1.out
      clear hB1 c1 c2
      cases bw
      · go_wp2
        go_roundw
        case rel => exact ⟨k + 1, by omega, by go_num, HNx.out (by unfold contB; rw [← HBW.out, Bool.false_and]), HB1⟩
        case measure => go_light; simp only [intOf]; omega
      · have h1 := cmpb16 ⟨xa, xn, xc, xl⟩ ⟨ua, un, uc, ul⟩ w1 HX1.out HU1.out
        have h2 := fun n => cmpb16 ⟨ya, yn, yc, yl⟩ ⟨ua, un, uc, ul⟩ (w1.drewN n) (HY1.out.drewN n) (HU1.out.drewN n)
        obtain ⟨r1, hr1⟩ : ∃ r, r = cb xl ul := ⟨_, rfl⟩
        obtain ⟨r2, hr2⟩ : ∃ r, r = cb yl ul := ⟨_, rfl⟩
        simp only [← hr1] at h1
        simp only [← hr2] at h2
        have HC : Hid (contB fl (Sl.pb ⟨ta, tn, tc, tl⟩) ul (pl ((⟨xa, xn, xc, xl⟩ : Sl), (⟨ya, yn, yc, yl⟩ : Sl))) = (decide (r1 ≤ 0) && gtB (Sl.pb ⟨ya, yn, yc, yl⟩) ul)) := by
          unfold Hid contB
          rw [← HBW.out, Bool.true_and, hr1]
          rfl
        have HR2 : Hid (r2 = cb yl ul) := hr2
        unfold Sl.v at h1 h2
        simp only at h1 h2
        clear hr1 hr2
        by_cases hle : r1 ≤ 0
        · have hd : decide (r1 ≤ 0) = true := decide_eq_true hle
          cases ya with
          | none =>
            have e0 := HY1.out.none
            unfold nilS at e0
            simp only [Sl.mk.injEq, true_and] at e0
            obtain ⟨rfl, rfl, rfl⟩ := e0
            go_wp2_with fail
            refine h1.mono ?_
            rintro e w2 ⟨rfl, n2, rfl⟩
            go_wp2
            go_ret
            exact ⟨rfl, below_drewN HB1.out _⟩
          | some ya =>
            by_cases hgt : 0 < r2
            · have hd2 : decide (0 < r2) = true := decide_eq_true hgt
              go_wp2_with fail
              refine h1.mono ?_
              rintro e w2 ⟨rfl, n2, rfl⟩
              go_wp2_with fail
              refine (h2 _).mono ?_
              rintro e w3 ⟨rfl, n3, rfl⟩
              go_wp2
              go_ret
              exact ⟨rfl, below_drewN HB1.out _⟩
            · have hd2 : decide (0 < r2) = false := decide_eq_false hgt
              have HF2 : Hid (contB fl (Sl.pb ⟨ta, tn, tc, tl⟩) ul (pl ((⟨xa, xn, xc, xl⟩ : Sl), (⟨some ya, yn, yc, yl⟩ : Sl))) = false) := by
                unfold Hid
                rw [HC.out, hd, Bool.true_and]
                show decide (0 < cb yl ul) = false
                rw [← HR2.out]; exact hd2
              go_wp2_with fail
              refine h1.mono ?_
              rintro e w2 ⟨rfl, n2, rfl⟩
              go_wp2_with fail
              refine (h2 _).mono ?_
              rintro e w3 ⟨rfl, n3, rfl⟩
              go_wp2
              go_roundw
              case rel => exact ⟨k + 1, by omega, by go_num, HNx.out HF2.out, below_drewN HB1.out _⟩
              case measure => go_light; simp only [intOf]; omega
        · have hd : decide (r1 ≤ 0) = false := decide_eq_false hle
          have HF2 : Hid (contB fl (Sl.pb ⟨ta, tn, tc, tl⟩) ul (pl ((⟨xa, xn, xc, xl⟩ : Sl), (⟨ya, yn, yc, yl⟩ : Sl))) = false) := by
            unfold Hid
            rw [HC.out, hd, Bool.false_and]
          go_wp2_with fail
          refine h1.mono ?_
          rintro e w2 ⟨rfl, n2, rfl⟩
          go_wp2
          go_roundw
          case rel => exact ⟨k + 1, by omega, by go_num, HNx.out HF2.out, below_drewN HB1.out _⟩
          case measure => go_light; simp only [intOf]; omega
    · exfalso
      have hkN : k = N := by omega
      obtain ⟨p, hp, hc⟩ := HEx.out
      obtain ⟨j, hj, e⟩ := List.getElem_of_mem hp
      have := HPr.out j p (by rw [hkN, HN.out]; exact hj) (by rw [List.getElem?_eq_getElem hj, e])
      rw [hc] at this
      cases this
end Go.Proofs.Qxb6600979a
