import Derived.Test.Qxb6600979aV4
namespace Go.Proofs.Qxb6600979a
open Go.RowKit
set_option linter.unusedVariables false

def hfK (f : List UInt8) (t : Option (List UInt8)) (l : List (Sl × Sl)) : Bool := l.any fun p => wthB f t (pl p) && decide (p.1.l = f)
def htK (f : List UInt8) (t : Option (List UInt8)) (l : List (Sl × Sl)) : Bool := l.any fun p => wthB f t (pl p) && decide (p.2.pb = t)
theorem any_next {l : List (Sl × Sl)} {j : Nat} {p : Sl × Sl} (h : l[j]? = some p) (P : Sl × Sl → Bool) : (l.take (j + 1)).any P = ((l.take j).any P || P p) := by
  rw [List.take_add_one, h]; simp

theorem cov_cont {xs : List (Sl × Sl)} {f : List UInt8} {t : Option (List UInt8)} {p : Sl × Sl} {u : List UInt8} (h : Cov (xs.map pl) (f, t)) (hp : p ∈ xs) (hw : wthB f t (pl p) = true) (hu : p.2.pb = some u) (hne : some u ≠ t) : ∃ q ∈ xs, contB f t u (pl q) = true := by
  obtain ⟨y, hy, hwy, h1, h2⟩ := h.2.2 (pl p) (List.mem_map.mpr ⟨p, hp, rfl⟩) ((wthB_iff f t (pl p)).mp hw) u hu (by show p.2.pb ≠ t; rw [hu]; exact hne)
  obtain ⟨q, hq, rfl⟩ := List.mem_map.mp hy
  refine ⟨q, hq, ?_⟩
  unfold contB
  rw [(wthB_iff f t (pl q)).mpr hwy, Bool.true_and, decide_eq_true h1, Bool.true_and]
  cases hq2 : (pl q).2 with
  | none => rfl
  | some v =>
    have := h2 v hq2
    have h3 := cb_neg u v
    exact decide_eq_true (by omega)
theorem wth_nil {f : List UInt8} {t : Option (List UInt8)} {x : Rg} (h : wthB f t x = true) (hx : x.2 = none) : t = none := by
  cases t with
  | none => rfl
  | some u =>
    obtain ⟨v, hv, _⟩ := ((wthB_iff f (some u) x).mp h).2 u rfl
    rw [hx] at hv; cases hv

set_option maxHeartbeats 16000000 in
set_option maxRecDepth 8000 in
theorem cov17 (f t : Sl) (a : Option Addr) (N c : Nat) (xs : List (Sl × Sl)) (w : World) (HN : Hid (N = xs.length)) (hN : N ≤ 1048576) (hr : RowR w a xs) (ha : AllAt w xs) (hf : SlAt w f) (ht : SlAt w t) (hcov : Cov (xs.map pl) (f.l, t.pb)) :
    Calls Try.prog 17 #[f.v, t.v, .slice a N c] w fun e w' => e = .returned (.bool true) ∧ Below w.heap.size w w' := by
  have HR : Hid (RowR w a xs) := hr
  have HA : Hid (AllAt w xs) := ha
  have HF : Hid (SlAt w f) := hf
  have HT : Hid (SlAt w t) := ht
  have HC : Hid (Cov (xs.map pl) (f.l, t.pb)) := hcov
  clear hr ha hf ht hcov
  obtain ⟨fa, fn, fc, fl⟩ := f
  obtain ⟨tp, HTP⟩ : ∃ tp, Hid (tp = t.pb) := ⟨_, rfl⟩
  rw [← HTP.out] at HC
  obtain ⟨ta, tn, tc, tl⟩ := t
  simp only at HC
  dsimp only [Sl.v]
  go_enter Try.func17, Try.ntmps17
  go_wp2
  go_loopg [7, 8, 9] N (fun gk v1 v2 i wr => ∃ (k : Nat), gk + k = N ∧ i = .int .i64 k ∧ v1 = .bool (hfK fl tp (xs.take k)) ∧ v2 = .bool (htK fl tp (xs.take k)) ∧ Hid (Below w.heap.size w wr))
  case atStart => exact ⟨0, by omega, rfl, rfl, rfl, Below.refl _ _⟩
  case round =>
    obtain ⟨k, hk, rfl, rfl, rfl, HB⟩ := hrel
    obtain ⟨G, rfl⟩ : ∃ G, G = gk := ⟨_, rfl⟩
    by_cases hlt : k < N
    · obtain ⟨p, hp⟩ : ∃ p, xs[k]? = some p := ⟨xs[k]'(by rw [← HN.out]; exact hlt), by simp⟩
      obtain ⟨b, o, e, c1, c2⟩ := HR.out k p hp
      subst e
      have hbl : b < w.heap.size := World.block_lt_of_cell? w _ c1
      replace c1 := (HB.out.cell (p := ⟨b, o + k * 2, none⟩) hbl).trans c1
      replace c2 := (HB.out.cell (p := ⟨b, o + k * 2 + 1, none⟩) hbl).trans c2
      have HMem : Hid (p ∈ xs) := List.mem_of_getElem? hp
      have HAP : Hid (SlAt w p.1 ∧ SlAt w p.2) := HA.out p HMem.out
      have ik : (k : Int) < N := by omega
      obtain ⟨bw, HBW⟩ : ∃ bw, Hid (bw = wthB fl tp (pl p)) := ⟨_, rfl⟩
      obtain ⟨bs, HBS⟩ : ∃ bs, Hid (bs = decide (p.1.l = fl)) := ⟨_, rfl⟩
      have HF1 : Hid (hfK fl tp (xs.take (k + 1)) = (hfK fl tp (xs.take k) || (bw && bs))) := by
        unfold Hid hfK; rw [any_next hp, HBW.out, HBS.out]
      have HT1 : Hid (htK fl tp (xs.take (k + 1)) = (htK fl tp (xs.take k) || (bw && decide (p.2.pb = tp)))) := by
        unfold Hid htK; rw [any_next hp, HBW.out]
      clear hp
      obtain ⟨bl, HBL⟩ : ∃ bl, Hid (bl = wr.heap.size) := ⟨_, rfl⟩
      have hcon : ∀ W, Below w.heap.size w W → Calls Try.prog 29 #[Sl.v ⟨fa, fn, fc, fl⟩, Sl.v ⟨ta, tn, tc, tl⟩, rv p] W fun e w' => e = .returned (.bool bw) ∧ Below W.heap.size W w' := fun W hW => by
        rw [HBW.out, HTP.out]
        exact within29 ⟨fa, fn, fc, fl⟩ ⟨ta, tn, tc, tl⟩ p W (HF.out.below hW) (HT.out.below hW) (HAP.out.1.below hW) (HAP.out.2.below hW)
      have hsame : ∀ W, Below w.heap.size w W → Calls Try.prog 23 #[p.1.v, Sl.v ⟨fa, fn, fc, fl⟩] W fun e w' => e = .returned (.bool bs) ∧ ∃ n, w' = W.drewN n := fun W hW => by
        rw [HBS.out]
        exact same23 p.1 ⟨fa, fn, fc, fl⟩ W (HAP.out.1.below hW) (HF.out.below hW)
      obtain ⟨pp, HPP⟩ : ∃ pp, Hid (pp = p) := ⟨_, rfl⟩
      rw [← HPP.out] at HMem HAP HBW HBS HT1
      obtain ⟨⟨xa, xn, xc, xl⟩, ⟨ya, yn, yc, yl⟩⟩ := p
      unfold rv at hcon
      unfold Sl.v at hcon hsame c1 c2
      simp only at hcon hsame c1 c2
      have hbA : Below w.heap.size w (wr.alloc (Obj.cells #[Value.slice xa xn xc, Value.slice ya yn yc] 37)) := HB.out.alloc HB.out.size _
      go_wp2_with fail
      refine (hcon _ hbA).mono ?_
      rintro e w1 ⟨rfl, hB1⟩
      have hz1 : wr.heap.size + 1 ≤ w1.heap.size := by have := hB1.size; simpa using this
      have HB1 : Hid (Below w.heap.size w w1) := hbA.trans (hB1.mono (Nat.le_trans HB.out.size (by simp)))
      have d1 : w1.cell? ⟨wr.heap.size, 0, none⟩ = some (.slice xa xn xc) := (hB1.cell (p := ⟨wr.heap.size, 0, none⟩) (by simp)).trans (by simp [go_sem])
      have d2 : w1.cell? ⟨wr.heap.size, 1, none⟩ = some (.slice ya yn yc) := (hB1.cell (p := ⟨wr.heap.size, 1, none⟩) (by simp)).trans (by simp [go_sem])
      rw [← HBL.out] at d1 d2 ⊢
      clear hB1 hz1 hcon c1 c2 hbA
      cases bw
      · go_wp2
        go_roundg (G - 1)
        case measure => omega
        case rel => exact ⟨k + 1, by omega, by go_num, by rw [HF1.out, Bool.false_and, Bool.or_false], by rw [HT1.out, Bool.false_and, Bool.or_false], HB1⟩
      · have HB1' : Hid (Below w.heap.size w w1) := HB1
        go_wp2_with fail
        refine (hsame _ HB1.out).mono ?_
        rintro e w2 ⟨rfl, n2, rfl⟩
        have HB2 : Hid (Below w.heap.size w (w1.drewN n2)) := below_drewN HB1.out _
        cases bs
        · cases ya with
          | none =>
            have HPB : Hid (decide (pp.2.pb = tp) = true) := decide_eq_true (by
              have e1 : pp.2.pb = none := by rw [HPP.out]; rfl
              rw [e1, wth_nil HBW.out.symm e1])
            have e0 := HAP.out.2
            rw [HPP.out] at e0
            have e1 := e0.none
            unfold nilS at e1
            simp only [Sl.mk.injEq, true_and] at e1
            obtain ⟨rfl, rfl, rfl⟩ := e1
            clear e0
            go_wp2
            go_roundg (G - 1)
            case measure => omega
            case rel => exact ⟨k + 1, by omega, by go_num, by rw [HF1.out, Bool.and_false, Bool.or_false], by rw [HT1.out, HPB.out, Bool.true_and, Bool.or_true], HB2⟩
          | some ya =>
            have HY2 : Hid (pp.2.pb = some yl) := by unfold Hid; rw [HPP.out]; rfl
            have hcn : ∀ W, some yl ≠ tp → Below w.heap.size w W → Calls Try.prog 30 #[Sl.v ⟨fa, fn, fc, fl⟩, Sl.v ⟨ta, tn, tc, tl⟩, Sl.v ⟨some ya, yn, yc, yl⟩, .slice (some ⟨b, o, none⟩) N c] W fun e w' => e = .returned (.bool true) ∧ Below W.heap.size W w' := fun W hne hW => by
              have hx2 := HAP.out.2
              rw [HPP.out] at hx2
              exact cont30 ⟨fa, fn, fc, fl⟩ ⟨ta, tn, tc, tl⟩ ⟨some ya, yn, yc, yl⟩ (some ⟨b, o, none⟩) N c xs W HN hN (HR.out.below hW) (HA.out.below hW) (HF.out.below hW) (HT.out.below hW) (hx2.below hW) (by rw [← HTP.out]; exact cov_cont HC.out HMem.out HBW.out.symm HY2.out hne)
            have HCN : Hid (∀ W, some yl ≠ tp → Below w.heap.size w W → Calls Try.prog 30 #[Sl.v ⟨fa, fn, fc, fl⟩, Sl.v ⟨ta, tn, tc, tl⟩, Sl.v ⟨some ya, yn, yc, yl⟩, .slice (some ⟨b, o, none⟩) N c] W fun e w' => e = .returned (.bool true) ∧ Below W.heap.size W w') := hcn
            clear hcn
            cases ta with
            | none =>
              have htp : tp = none := HTP.out
              have hne : some yl ≠ tp := by rw [htp]; simp
              have HPB : Hid (decide (pp.2.pb = tp) = false) := decide_eq_false (by rw [HY2.out]; exact hne)
              have e1 := HT.out.none
              unfold nilS at e1
              simp only [Sl.mk.injEq, true_and] at e1
              obtain ⟨rfl, rfl, rfl⟩ := e1
              have HCC : Hid (Calls Try.prog 30 #[Sl.v ⟨fa, fn, fc, fl⟩, Sl.v ⟨none, 0, 0, []⟩, Sl.v ⟨some ya, yn, yc, yl⟩, .slice (some ⟨b, o, none⟩) N c] (w1.drewN n2) fun e w' => e = .returned (.bool true) ∧ Below (w1.drewN n2).heap.size (w1.drewN n2) w') := HCN.out _ hne HB2.out
              clear htp hne
              go_wp2_with fail
              refine HCC.out.mono ?_
              rintro e w3 ⟨rfl, hB3⟩
              have HB3 : Hid (Below w.heap.size w w3) := HB2.out.trans (hB3.mono HB2.out.size)
              clear hB3
              go_wp2
              go_roundg (G - 1)
              case measure => omega
              case rel => exact ⟨k + 1, by omega, by go_num, by rw [HF1.out, Bool.and_false, Bool.or_false], by rw [HT1.out, HPB.out, Bool.and_false, Bool.or_false], HB3⟩
            | some ta =>
              have htp : tp = some tl := HTP.out
              have HS2 : Hid (Calls Try.prog 23 #[Sl.v ⟨some ya, yn, yc, yl⟩, Sl.v ⟨some ta, tn, tc, tl⟩] (w1.drewN n2) fun e w' => e = .returned (.bool (decide (yl = tl))) ∧ ∃ n, w' = (w1.drewN n2).drewN n) := by
                have hx2 := HAP.out.2
                rw [HPP.out] at hx2
                exact same23 ⟨some ya, yn, yc, yl⟩ ⟨some ta, tn, tc, tl⟩ (w1.drewN n2) (hx2.below HB2.out) (HT.out.below HB2.out)
              by_cases hs : yl = tl
              · have HPB : Hid (decide (pp.2.pb = tp) = true) := decide_eq_true (by rw [HY2.out, htp, hs])
                have HS3 : Hid (Calls Try.prog 23 #[Sl.v ⟨some ya, yn, yc, yl⟩, Sl.v ⟨some ta, tn, tc, tl⟩] (w1.drewN n2) fun e w' => e = .returned (.bool true) ∧ ∃ n, w' = (w1.drewN n2).drewN n) := by
                  have := HS2.out
                  rw [decide_eq_true hs] at this
                  exact this
                clear htp hs HS2
                go_wp2_with fail
                refine HS3.out.mono ?_
                rintro e w3 ⟨rfl, n3, rfl⟩
                go_wp2
                go_roundg (G - 1)
                case measure => omega
                case rel => exact ⟨k + 1, by omega, by go_num, by rw [HF1.out, Bool.and_false, Bool.or_false], by rw [HT1.out, HPB.out, Bool.true_and, Bool.or_true], below_drewN HB1.out _⟩
              · have hne : some yl ≠ tp := by rw [htp]; simpa using hs
                have HPB : Hid (decide (pp.2.pb = tp) = false) := decide_eq_false (by rw [HY2.out]; exact hne)
                have HS3 : Hid (Calls Try.prog 23 #[Sl.v ⟨some ya, yn, yc, yl⟩, Sl.v ⟨some ta, tn, tc, tl⟩] (w1.drewN n2) fun e w' => e = .returned (.bool false) ∧ ∃ n, w' = (w1.drewN n2).drewN n) := by
                  have := HS2.out
                  rw [decide_eq_false hs] at this
                  exact this
                have HCC : Hid (∀ n, Calls Try.prog 30 #[Sl.v ⟨fa, fn, fc, fl⟩, Sl.v ⟨some ta, tn, tc, tl⟩, Sl.v ⟨some ya, yn, yc, yl⟩, .slice (some ⟨b, o, none⟩) N c] (w1.drewN n) fun e w' => e = .returned (.bool true) ∧ Below (w1.drewN n).heap.size (w1.drewN n) w') := fun n => HCN.out _ hne (below_drewN HB1.out _)
                clear htp hs HS2 hne
                go_wp2_with fail
                refine HS3.out.mono ?_
                rintro e w3 ⟨rfl, n3, rfl⟩
                go_wp2_with fail
                refine (HCC.out _).mono ?_
                rintro e w4 ⟨rfl, hB4⟩
                have HB4 : Hid (Below w.heap.size w w4) := (below_drewN HB1.out _).trans (hB4.mono HB1.out.size)
                clear hB4
                go_wp2
                go_roundg (G - 1)
                case measure => omega
                case rel => exact ⟨k + 1, by omega, by go_num, by rw [HF1.out, Bool.and_false, Bool.or_false], by rw [HT1.out, HPB.out, Bool.and_false, Bool.or_false], HB4⟩
        · cases ya with
          | none =>
            have HPB : Hid (decide (pp.2.pb = tp) = true) := decide_eq_true (by
              have e1 : pp.2.pb = none := by rw [HPP.out]; rfl
              rw [e1, wth_nil HBW.out.symm e1])
            have e0 := HAP.out.2
            rw [HPP.out] at e0
            have e1 := e0.none
            unfold nilS at e1
            simp only [Sl.mk.injEq, true_and] at e1
            obtain ⟨rfl, rfl, rfl⟩ := e1
            clear e0
            go_wp2
            go_roundg (G - 1)
            case measure => omega
            case rel => exact ⟨k + 1, by omega, by go_num, by rw [HF1.out, Bool.true_and, Bool.or_true], by rw [HT1.out, HPB.out, Bool.true_and, Bool.or_true], HB2⟩
          | some ya =>
            have HY2 : Hid (pp.2.pb = some yl) := by unfold Hid; rw [HPP.out]; rfl
            have hcn : ∀ W, some yl ≠ tp → Below w.heap.size w W → Calls Try.prog 30 #[Sl.v ⟨fa, fn, fc, fl⟩, Sl.v ⟨ta, tn, tc, tl⟩, Sl.v ⟨some ya, yn, yc, yl⟩, .slice (some ⟨b, o, none⟩) N c] W fun e w' => e = .returned (.bool true) ∧ Below W.heap.size W w' := fun W hne hW => by
              have hx2 := HAP.out.2
              rw [HPP.out] at hx2
              exact cont30 ⟨fa, fn, fc, fl⟩ ⟨ta, tn, tc, tl⟩ ⟨some ya, yn, yc, yl⟩ (some ⟨b, o, none⟩) N c xs W HN hN (HR.out.below hW) (HA.out.below hW) (HF.out.below hW) (HT.out.below hW) (hx2.below hW) (by rw [← HTP.out]; exact cov_cont HC.out HMem.out HBW.out.symm HY2.out hne)
            have HCN : Hid (∀ W, some yl ≠ tp → Below w.heap.size w W → Calls Try.prog 30 #[Sl.v ⟨fa, fn, fc, fl⟩, Sl.v ⟨ta, tn, tc, tl⟩, Sl.v ⟨some ya, yn, yc, yl⟩, .slice (some ⟨b, o, none⟩) N c] W fun e w' => e = .returned (.bool true) ∧ Below W.heap.size W w') := hcn
            clear hcn
            cases ta with
            | none =>
              have htp : tp = none := HTP.out
              have hne : some yl ≠ tp := by rw [htp]; simp
              have HPB : Hid (decide (pp.2.pb = tp) = false) := decide_eq_false (by rw [HY2.out]; exact hne)
              have e1 := HT.out.none
              unfold nilS at e1
              simp only [Sl.mk.injEq, true_and] at e1
              obtain ⟨rfl, rfl, rfl⟩ := e1
              have HCC : Hid (Calls Try.prog 30 #[Sl.v ⟨fa, fn, fc, fl⟩, Sl.v ⟨none, 0, 0, []⟩, Sl.v ⟨some ya, yn, yc, yl⟩, .slice (some ⟨b, o, none⟩) N c] (w1.drewN n2) fun e w' => e = .returned (.bool true) ∧ Below (w1.drewN n2).heap.size (w1.drewN n2) w') := HCN.out _ hne HB2.out
              clear htp hne
              go_wp2_with fail
              refine HCC.out.mono ?_
              rintro e w3 ⟨rfl, hB3⟩
              have HB3 : Hid (Below w.heap.size w w3) := HB2.out.trans (hB3.mono HB2.out.size)
              clear hB3
              go_wp2
              go_roundg (G - 1)
              case measure => omega
              case rel => exact ⟨k + 1, by omega, by go_num, by rw [HF1.out, Bool.true_and, Bool.or_true], by rw [HT1.out, HPB.out, Bool.and_false, Bool.or_false], HB3⟩
            | some ta =>
              have htp : tp = some tl := HTP.out
              have HS2 : Hid (Calls Try.prog 23 #[Sl.v ⟨some ya, yn, yc, yl⟩, Sl.v ⟨some ta, tn, tc, tl⟩] (w1.drewN n2) fun e w' => e = .returned (.bool (decide (yl = tl))) ∧ ∃ n, w' = (w1.drewN n2).drewN n) := by
                have hx2 := HAP.out.2
                rw [HPP.out] at hx2
                exact same23 ⟨some ya, yn, yc, yl⟩ ⟨some ta, tn, tc, tl⟩ (w1.drewN n2) (hx2.below HB2.out) (HT.out.below HB2.out)
              by_cases hs : yl = tl
              · have HPB : Hid (decide (pp.2.pb = tp) = true) := decide_eq_true (by rw [HY2.out, htp, hs])
                have HS3 : Hid (Calls Try.prog 23 #[Sl.v ⟨some ya, yn, yc, yl⟩, Sl.v ⟨some ta, tn, tc, tl⟩] (w1.drewN n2) fun e w' => e = .returned (.bool true) ∧ ∃ n, w' = (w1.drewN n2).drewN n) := by
                  have := HS2.out
                  rw [decide_eq_true hs] at this
                  exact this
                clear htp hs HS2
                go_wp2_with fail
                refine HS3.out.mono ?_
                rintro e w3 ⟨rfl, n3, rfl⟩
                go_wp2
                go_roundg (G - 1)
                case measure => omega
                case rel => exact ⟨k + 1, by omega, by go_num, by rw [HF1.out, Bool.true_and, Bool.or_true], by rw [HT1.out, HPB.out, Bool.true_and, Bool.or_true], below_drewN HB1.out _⟩
              · have hne : some yl ≠ tp := by rw [htp]; simpa using hs
                have HPB : Hid (decide (pp.2.pb = tp) = false) := decide_eq_false (by rw [HY2.out]; exact hne)
                have HS3 : Hid (Calls Try.prog 23 #[Sl.v ⟨some ya, yn, yc, yl⟩, Sl.v ⟨some ta, tn, tc, tl⟩] (w1.drewN n2) fun e w' => e = .returned (.bool false) ∧ ∃ n, w' = (w1.drewN n2).drewN n) := by
                  have := HS2.out
                  rw [decide_eq_false hs] at this
                  exact this
                have HCC : Hid (∀ n, Calls Try.prog 30 #[Sl.v ⟨fa, fn, fc, fl⟩, Sl.v ⟨some ta, tn, tc, tl⟩, Sl.v ⟨some ya, yn, yc, yl⟩, .slice (some ⟨b, o, none⟩) N c] (w1.drewN n) fun e w' => e = .returned (.bool true) ∧ Below (w1.drewN n).heap.size (w1.drewN n) w') := fun n => HCN.out _ hne (below_drewN HB1.out _)
                clear htp hs HS2 hne
                go_wp2_with fail
                refine HS3.out.mono ?_
                rintro e w3 ⟨rfl, n3, rfl⟩
                go_wp2_with fail
                refine (HCC.out _).mono ?_
                rintro e w4 ⟨rfl, hB4⟩
                have HB4 : Hid (Below w.heap.size w w4) := (below_drewN HB1.out _).trans (hB4.mono HB1.out.size)
                clear hB4
                go_wp2
                go_roundg (G - 1)
                case measure => omega
                case rel => exact ⟨k + 1, by omega, by go_num, by rw [HF1.out, Bool.true_and, Bool.or_true], by rw [HT1.out, HPB.out, Bool.and_false, Bool.or_false], HB4⟩
    · have hkN : k = N := by omega
      have h1 : hfK fl tp (xs.take k) = true := by
        rw [List.take_of_length_le (by rw [← HN.out]; omega)]
        obtain ⟨x, hx, hw, he⟩ := HC.out.1
        obtain ⟨q, hq, rfl⟩ := List.mem_map.mp hx
        unfold hfK
        rw [List.any_eq_true]
        exact ⟨q, hq, by rw [(wthB_iff fl tp (pl q)).mpr hw, Bool.true_and]; exact decide_eq_true he⟩
      have h2 : htK fl tp (xs.take k) = true := by
        rw [List.take_of_length_le (by rw [← HN.out]; omega)]
        obtain ⟨x, hx, hw, he⟩ := HC.out.2.1
        obtain ⟨q, hq, rfl⟩ := List.mem_map.mp hx
        unfold htK
        rw [List.any_eq_true]
        exact ⟨q, hq, by rw [(wthB_iff fl tp (pl q)).mpr hw, Bool.true_and]; exact decide_eq_true he⟩
      rw [h1, h2]
      clear h1 h2 hkN
      go_wp2
      go_ret
      exact ⟨rfl, HB.out⟩
end Go.Proofs.Qxb6600979a
