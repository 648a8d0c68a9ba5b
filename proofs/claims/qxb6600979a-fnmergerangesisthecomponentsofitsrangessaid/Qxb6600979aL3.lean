import Derived.Test.Qxb6600979aV5
import Derived.Test.Qxb6600979aL4
namespace Go.Proofs.Qxb6600979a
open Go.RowKit
set_option linter.unusedVariables false

theorem pairwise_at {R : List Rg} (h : R.Pairwise Sep) {i j : Nat} {p q : Rg} (hi : R[i]? = some p) (hj : R[j]? = some q) (hij : i < j) : Sep p q := by
  have li : i < R.length := by
    rcases Nat.lt_or_ge i R.length with h' | h'
    · exact h'
    · rw [List.getElem?_eq_none h'] at hi; cases hi
  have lj : j < R.length := by
    rcases Nat.lt_or_ge j R.length with h' | h'
    · exact h'
    · rw [List.getElem?_eq_none h'] at hj; cases hj
  rw [List.getElem?_eq_getElem li] at hi
  rw [List.getElem?_eq_getElem lj] at hj
  cases hi
  cases hj
  exact List.pairwise_iff_getElem.mp h i j li lj hij

set_option maxHeartbeats 16000000 in
set_option maxRecDepth 8000 in
theorem law3 (a : Option Addr) (N c : Nat) (xs : List (Sl × Sl)) (w : World) (HN : Hid (N = xs.length)) (hN : N ≤ maxLen) (hr : RowR w a xs) (hl : Lens xs) (hnil : a = none → N = 0)
    (hx : ∀ p ∈ xs, (p.1.n ≤ 1048576 → SlAt w p.1) ∧ (p.2.n ≤ 1048576 → SlAt w p.2)) :
    Calls Try.prog 3 #[.slice a N c] w fun e w' => e = .returned (.bool true) ∧ Below w.heap.size w w' := by
  have HR : Hid (RowR w a xs) := hr
  have HX : Hid (∀ p ∈ xs, (p.1.n ≤ 1048576 → SlAt w p.1) ∧ (p.2.n ≤ 1048576 → SlAt w p.2)) := hx
  have HL : Hid (Lens xs) := hl
  have HNil : Hid (a = none → N = 0) := hnil
  clear hr hx hl hnil
  go_enter Try.func3, Try.ntmps3
  go_wp2_with fail
  refine (bytes8 a N c xs w HN hN HR.out HL.out).mono ?_
  rintro e w' ⟨⟨r, rfl⟩, hw⟩
  rw [hw]
  clear hw
  cases r
  · go_wp2
    go_ret
    exact ⟨rfl, Below.refl _ _⟩
  go_wp2_with fail
  refine (big9 a N c xs 0 w HN hN (by omega) HR.out HL.out).mono ?_
  rintro e w' ⟨⟨r, rfl, hbig⟩, nd1, hw⟩
  subst hw
  cases r
  case true => go_wp2; go_ret; exact ⟨rfl, below_drewN (Below.refl _ _) _⟩
  obtain ⟨hN48, hlens⟩ := hbig rfl
  have HAll : Hid (AllAt w xs) := fun p hp => ⟨(HX.out p hp).1 (hlens p hp).1, (HX.out p hp).2 (hlens p hp).2⟩
  clear hbig hlens
  obtain ⟨w0, hw0⟩ : ∃ w0, w0 = w.drewN nd1 := ⟨_, rfl⟩
  have HB0 : Hid (Below w.heap.size w w0) := by rw [hw0]; exact below_drewN (Below.refl _ _) _
  rw [← hw0]
  clear hw0
  have hz0 : w.heap.size ≤ w0.heap.size := HB0.out.size
  rcases Nat.lt_or_ge 4096 N with hb1 | hb1
  · have i1 : (4096 : Int) < N := by omega
    go_wp2
    go_ret
    exact ⟨rfl, HB0.out⟩
  have i1 : ¬ (4096 : Int) < N := by omega
  go_wp2_with fail
  refine (proper10 a N c xs w0 HN (by omega) (HR.out.below HB0.out) (HAll.out.below HB0.out)).mono ?_
  rintro e w' ⟨⟨r, rfl, hprop⟩, nd2, hw⟩
  subst hw
  obtain ⟨w1, hw1⟩ : ∃ w1, w1 = w0.drewN nd2 := ⟨_, rfl⟩
  have HB1 : Hid (Below w.heap.size w w1) := by rw [hw1]; exact below_drewN HB0.out _
  rw [← hw1]
  clear hw1
  cases r
  case false => go_wp2; go_ret; exact ⟨rfl, HB1.out⟩
  have HProp : Hid (∀ p ∈ xs, Proper (pl p)) := hprop rfl
  clear hprop
  have hz1 : w.heap.size ≤ w1.heap.size := HB1.out.size
  go_wp2_with fail
  refine (dups11 a N c xs w1 HN hN48 (HR.out.below HB1.out) (HAll.out.below HB1.out) HNil.out).mono ?_
  rintro e w2 ⟨a2, c2, ys, rfl, hrow2, hall2, hpl2, hB2⟩
  have HRow2 : Hid (RowR w2 a2 ys) := hrow2
  have HAll2 : Hid (AllAt w2 ys) := hall2
  have HPl2 : Hid (ys.map pl = xs.map pl) := hpl2
  have HNy : Hid (N = ys.length) := by
    unfold Hid
    have := congrArg List.length hpl2
    rw [List.length_map, List.length_map] at this
    rw [this]; exact HN.out
  have HB2 : Hid (Below w.heap.size w w2) := HB1.out.trans (hB2.mono hz1)
  clear hrow2 hall2 hpl2 hB2
  have hz2 : w.heap.size ≤ w2.heap.size := HB2.out.size
  go_wp2_with fail
  refine (tokey13 a2 N c2 ys w2 HNy hN48 HRow2.out HAll2.out).mono ?_
  rintro e w3 ⟨rfl, ys3, zs3, hown3, hfill3, hlen3, hcop3, hB3⟩
  obtain ⟨g, HG⟩ : ∃ g, Hid (g = w2.heap.size) := ⟨_, rfl⟩
  have hzg : w.heap.size ≤ g := by rw [HG.out]; exact hz2
  rw [← HG.out] at hown3 hcop3 ⊢
  have HPl3 : Hid (ys3.map pl = ys.map pl) := hcop3.pls
  have HB3 : Hid (Below w.heap.size w w3) := HB2.out.trans (hB3.mono hz2)
  have HB23 : Hid (Below w2.heap.size w2 w3) := hB3
  have hmrg := zzmerge12 g g N ys3 zs3 w3 (by rw [HG.out] at hown3 ⊢; exact hown3) hfill3 hlen3 hN48 hcop3.all (fun p hp => ⟨(hcop3.fr p hp).1.off (by omega), (hcop3.fr p hp).2.off (by omega)⟩)
  have hg3 : g ≤ w3.heap.size := by rw [HG.out]; exact hB3.size
  clear hown3 hfill3 hlen3 hcop3
  go_wp2_with fail
  refine hmrg.mono ?_
  rintro e w4 ⟨M, rfl, hML, hrow4, hall4, hB4, ys', hperm, hsort, hMe⟩
  have HInv : Hid (Inv (M.map pl) (ys.map pl)) := by
    unfold Hid
    rw [hMe, ← HPl3.out]
    refine comp_law ys3 ys' hperm hsort (fun p hp => ?_)
    have : pl p ∈ xs.map pl := by rw [← HPl2.out, ← HPl3.out]; exact List.mem_map.mpr ⟨p, hp, rfl⟩
    obtain ⟨q, hq, e⟩ := List.mem_map.mp this
    rw [← e]
    exact HProp.out q hq
  have HB24 : Hid (Below w2.heap.size w2 w4) := HB23.out.trans (by rw [← HG.out]; exact hB4)
  have HB4 : Hid (Below w.heap.size w w4) := HB3.out.trans (hB4.mono hzg)
  have HRow4 : Hid (RowR w4 a2 ys) := HRow2.out.below HB24.out
  have HAll4 : Hid (AllAt w4 ys) := HAll2.out.below HB24.out
  have HRowM : Hid (RowR w4 (some ⟨g, 0, none⟩) M) := hrow4
  have HAllM : Hid (AllAt w4 M) := hall4
  obtain ⟨L, HLM⟩ : ∃ L, Hid (M.length = L) := ⟨_, rfl⟩
  rw [HLM.out] at hML ⊢
  have hz4 : w.heap.size ≤ w4.heap.size := HB4.out.size
  clear hrow4 hall4 hB4 hmrg hperm hsort hMe hB3 HRow2 HAll2 HB23 HB24 HPl3 HB0 HB1 HB2 HB3 HAll HX HR HL HProp HPl2
  unfold maxLen at hN
  go_wp2_with fail
  go_loopg [4] L (fun gk i wr => ∃ (q : Nat), gk + q = L ∧ i = .int .i64 q ∧ Hid (Below w4.heap.size w4 wr))
  case atStart => exact ⟨0, by omega, rfl, Below.refl _ _⟩
  case round =>
    obtain ⟨q, hq, rfl, HBr⟩ := hrel
    obtain ⟨G, rfl⟩ : ∃ G, G = gk := ⟨_, rfl⟩
    by_cases hlq : q < L
    · obtain ⟨p, hp⟩ : ∃ p, M[q]? = some p := ⟨M[q]'(by rw [HLM.out]; exact hlq), by simp⟩
      obtain ⟨b, o, e, c1, c2'⟩ := HRowM.out q p hp
      have hbl : g < w4.heap.size := by
        simp only [Option.some.injEq, Addr.mk.injEq, and_true] at e
        obtain ⟨rfl, rfl⟩ := e
        exact World.block_lt_of_cell? w4 _ c1
      simp only [Option.some.injEq, Addr.mk.injEq, and_true] at e
      obtain ⟨rfl, rfl⟩ := e
      replace c1 := (HBr.out.cell (p := ⟨g, 0 + q * 2, none⟩) hbl).trans c1
      replace c2' := (HBr.out.cell (p := ⟨g, 0 + q * 2 + 1, none⟩) hbl).trans c2'
      have HMq : Hid (M[q]? = some p) := hp
      have HAp : Hid (SlAt w4 p.1 ∧ SlAt w4 p.2) := HAllM.out p (List.mem_of_getElem? hp)
      have hpm : pl p ∈ M.map pl := List.mem_map.mpr ⟨p, List.mem_of_getElem? hp, rfl⟩
      have HPr : Hid (Proper (pl p)) := HInv.out.proper _ hpm
      have HCv : Hid (Cov (ys.map pl) (pl p)) := HInv.out.cov _ hpm
      clear hp hpm
      have hf14 := fun W => from14 p W
      have ht15 := fun W => to15 p W
      have hcov : ∀ W, Below w4.heap.size w4 W → Calls Try.prog 17 #[p.1.v, p.2.v, .slice a2 N c2] W fun e w' => e = .returned (.bool true) ∧ Below W.heap.size W w' := fun W hW =>
        cov17 p.1 p.2 a2 N c2 ys W HNy (by omega) (HRow4.out.below hW) (HAll4.out.below hW) (HAp.out.1.below hW) (HAp.out.2.below hW) HCv.out
      have HCov : Hid (∀ W, Below w4.heap.size w4 W → Calls Try.prog 17 #[p.1.v, p.2.v, .slice a2 N c2] W fun e w' => e = .returned (.bool true) ∧ Below W.heap.size W w') := hcov
      clear hcov
      have HCmp : Hid (∀ W, Below w4.heap.size w4 W → Calls Try.prog 16 #[p.1.v, p.2.v] W fun e w' => e = .returned (.int .i64 (cb p.1.l p.2.l)) ∧ ∃ n, w' = W.drewN n) := fun W hW => cmpb16 p.1 p.2 W (HAp.out.1.below hW) (HAp.out.2.below hW)
      obtain ⟨r1, HR1⟩ : ∃ r, Hid (r = cb p.1.l p.2.l) := ⟨_, rfl⟩
      rw [← HR1.out] at HCmp
      have hr1 : p.2.a ≠ none → ¬ 0 < r1 := fun hn => by
        have : (pl p).2 = some p.2.l := by
          unfold pl Sl.pb
          cases h : p.2.a with
          | none => exact absurd h hn
          | some ad => rfl
        have h2 := HPr.out _ this
        rw [HR1.out]
        show ¬ 0 < cb p.1.l p.2.l
        have h3 : cb p.1.l p.2.l ≤ 0 := h2
        omega
      have iq : (q : Int) < L := by omega
      have hzr : w4.heap.size ≤ wr.heap.size := HBr.out.size
      have hgw : g < wr.heap.size := by omega
      -- the range before
      have HPrev : Hid (∀ q', q = q' + 1 → ∃ p' u, M[q']? = some p' ∧ p'.2.pb = some u ∧ cb u p.1.l < 0) := fun q' hq' => by
        obtain ⟨p', hp'⟩ : ∃ p', M[q']? = some p' := ⟨M[q']'(by rw [HLM.out]; omega), by simp⟩
        obtain ⟨u, hu1, hu2⟩ := pairwise_at HInv.out.sep (i := q') (j := q) (p := pl p') (q := pl p) (by rw [List.getElem?_map, hp']; rfl) (by rw [List.getElem?_map, HMq.out]; rfl) (by omega)
        exact ⟨p', u, hp', hu1, hu2⟩
      obtain ⟨pp, HPP⟩ : ∃ pp, Hid (pp = p) := ⟨_, rfl⟩
      rw [← HPP.out] at HPrev HAp
      obtain ⟨⟨xa, xn, xc, xl⟩, ⟨ya, yn, yc, yl⟩⟩ := p
      unfold rv at hf14 ht15
      unfold Sl.v at c1 c2' hf14 ht15
      simp only [Nat.zero_add] at c1 c2' hf14 ht15 hr1
      go_wp2_with fail
      refine (hf14 _).mono ?_
      rintro e w5 ⟨rfl, o1, rfl⟩
      have hgw1 : g < wr.heap.size + 1 := by omega
      go_wp2_with fail
      refine (ht15 _).mono ?_
      rintro e w6 ⟨rfl, o2, rfl⟩
      have HB6 : Hid (Below w4.heap.size w4 ((wr.alloc o1).alloc o2)) := (HBr.out.alloc hzr o1).alloc (by simp; omega) o2
      have hd1 : ((wr.alloc o1).alloc o2).cell? ⟨g, q * 2, none⟩ = some (.slice xa xn xc) := by rw [World.cell?_alloc_past _ _ _ (by simp; omega), World.cell?_alloc_past _ _ _ hgw]; exact c1
      obtain ⟨W6, hW6⟩ : ∃ W6, W6 = (wr.alloc o1).alloc o2 := ⟨_, rfl⟩
      rw [← hW6] at HB6 ⊢
      clear hW6 hd1 c1 c2' hf14 ht15
      cases ya with
      | none =>
        have e1 : (⟨none, yn, yc, yl⟩ : Sl) = nilS := by
          have h2 := HAp.out.2
          rw [HPP.out] at h2
          exact h2.none
        unfold nilS at e1
        simp only [Sl.mk.injEq, true_and] at e1
        obtain ⟨rfl, rfl, rfl⟩ := e1
        obtain ⟨W7, hW7⟩ : ∃ W7, W7 = W6 := ⟨_, rfl⟩
        have HB7 : Hid (Below w4.heap.size w4 W7) := by rw [hW7]; exact HB6.out
        rw [← hW7]
        clear hW7
        rcases Nat.eq_zero_or_pos q with hq0 | hq0
        · subst hq0
          go_wp2_with fail
          refine (HCov.out _ HB7.out).mono ?_
          rintro e w8 ⟨rfl, hB8⟩
          have HB8 : Hid (Below w4.heap.size w4 w8) := HB7.out.trans (hB8.mono HB7.out.size)
          clear hB8
          go_wp2
          go_roundg (G - 1)
          case measure => omega
          case rel => exact ⟨1, by omega, by go_num, HB8⟩
        · obtain ⟨q', hq'⟩ : ∃ q', q = q' + 1 := ⟨q - 1, by omega⟩
          obtain ⟨p', u, hp', hu, hlt'⟩ := HPrev.out q' hq'
          obtain ⟨b, o, e, k1, k2⟩ := HRowM.out q' p' hp'
          simp only [Option.some.injEq, Addr.mk.injEq, and_true] at e
          obtain ⟨rfl, rfl⟩ := e
          replace k1 := (HB7.out.cell (p := ⟨g, 0 + q' * 2, none⟩) hbl).trans k1
          replace k2 := (HB7.out.cell (p := ⟨g, 0 + q' * 2 + 1, none⟩) hbl).trans k2
          have hap' := HAllM.out p' (List.mem_of_getElem? hp')
          have ht15' := fun W => to15 p' W
          have hx1 := HAp.out.1
          rw [HPP.out] at hx1 hlt'
          have hcmp' : ∀ W, Below w4.heap.size w4 W → Calls Try.prog 16 #[p'.2.v, Sl.v ⟨xa, xn, xc, xl⟩] W fun e w' => e = .returned (.int .i64 (cb p'.2.l xl)) ∧ ∃ n, w' = W.drewN n := fun W hW => cmpb16 p'.2 ⟨xa, xn, xc, xl⟩ W (hap'.2.below hW) (hx1.below hW)
          obtain ⟨⟨za, zn, zc, zl⟩, ⟨va, vn, vc, vl⟩⟩ := p'
          cases va with
          | none => cases hu
          | some va =>
            have hul : vl = u := by
              have h' : some vl = some u := hu
              cases h'; rfl
            subst hul
            obtain ⟨r2, hr2⟩ : ∃ r, r = cb vl xl := ⟨_, rfl⟩
            have hlt2 : ¬ 0 ≤ r2 := by
              rw [hr2]
              have h' : cb vl xl < 0 := hlt'
              omega
            simp only [← hr2] at hcmp'
            unfold rv at ht15'
            unfold Sl.v at k1 k2 ht15' hcmp'
            simp only [Nat.zero_add] at k1 k2 ht15' hcmp'
            clear hr2 hp' hu hlt' hap' hx1
            have iq0 : (0 : Int) < q := by omega
            have iq1 : (0 : Int) ≤ (q : Int) - 1 := by omega
            have iq2 : (q : Int) - 1 < L := by omega
            have iq3 : ((q : Int) - 1).toNat = q' := by omega
            clear hq'
            have hz7 : w4.heap.size ≤ W7.heap.size := HB7.out.size
            go_wp2_with fail
            refine (ht15' _).mono ?_
            rintro e w9 ⟨rfl, o9, rfl⟩
            have HB9 : Hid (Below w4.heap.size w4 (W7.alloc o9)) := HB7.out.alloc hz7 _
            go_wp2_with fail
            refine (hcmp' _ HB9.out).mono ?_
            rintro e w10 ⟨rfl, n10, rfl⟩
            have HB10 : Hid (Below w4.heap.size w4 ((W7.alloc o9).drewN n10)) := below_drewN HB9.out _
            go_wp2_with fail
            refine (HCov.out _ HB10.out).mono ?_
            rintro e w8 ⟨rfl, hB8⟩
            have HB8 : Hid (Below w4.heap.size w4 w8) := HB10.out.trans (hB8.mono HB10.out.size)
            clear hB8
            go_wp2
            go_roundg (G - 1)
            case measure => omega
            case rel => exact ⟨q + 1, by omega, by go_num, HB8⟩
      | some ya =>
        have hr1' : ¬ 0 < r1 := by have := hr1 (by simp); omega
        go_wp2_with fail
        refine (HCmp.out _ HB6.out).mono ?_
        rintro e w7 ⟨rfl, n7, rfl⟩
        obtain ⟨W7, hW7⟩ : ∃ W7, W7 = W6.drewN n7 := ⟨_, rfl⟩
        have HB7 : Hid (Below w4.heap.size w4 W7) := by rw [hW7]; exact below_drewN HB6.out _
        rw [← hW7]
        clear hW7
        rcases Nat.eq_zero_or_pos q with hq0 | hq0
        · subst hq0
          go_wp2_with fail
          refine (HCov.out _ HB7.out).mono ?_
          rintro e w8 ⟨rfl, hB8⟩
          have HB8 : Hid (Below w4.heap.size w4 w8) := HB7.out.trans (hB8.mono HB7.out.size)
          clear hB8
          go_wp2
          go_roundg (G - 1)
          case measure => omega
          case rel => exact ⟨1, by omega, by go_num, HB8⟩
        · obtain ⟨q', hq'⟩ : ∃ q', q = q' + 1 := ⟨q - 1, by omega⟩
          obtain ⟨p', u, hp', hu, hlt'⟩ := HPrev.out q' hq'
          obtain ⟨b, o, e, k1, k2⟩ := HRowM.out q' p' hp'
          simp only [Option.some.injEq, Addr.mk.injEq, and_true] at e
          obtain ⟨rfl, rfl⟩ := e
          replace k1 := (HB7.out.cell (p := ⟨g, 0 + q' * 2, none⟩) hbl).trans k1
          replace k2 := (HB7.out.cell (p := ⟨g, 0 + q' * 2 + 1, none⟩) hbl).trans k2
          have hap' := HAllM.out p' (List.mem_of_getElem? hp')
          have ht15' := fun W => to15 p' W
          have hx1 := HAp.out.1
          rw [HPP.out] at hx1 hlt'
          have hcmp' : ∀ W, Below w4.heap.size w4 W → Calls Try.prog 16 #[p'.2.v, Sl.v ⟨xa, xn, xc, xl⟩] W fun e w' => e = .returned (.int .i64 (cb p'.2.l xl)) ∧ ∃ n, w' = W.drewN n := fun W hW => cmpb16 p'.2 ⟨xa, xn, xc, xl⟩ W (hap'.2.below hW) (hx1.below hW)
          obtain ⟨⟨za, zn, zc, zl⟩, ⟨va, vn, vc, vl⟩⟩ := p'
          cases va with
          | none => cases hu
          | some va =>
            have hul : vl = u := by
              have h' : some vl = some u := hu
              cases h'; rfl
            subst hul
            obtain ⟨r2, hr2⟩ : ∃ r, r = cb vl xl := ⟨_, rfl⟩
            have hlt2 : ¬ 0 ≤ r2 := by
              rw [hr2]
              have h' : cb vl xl < 0 := hlt'
              omega
            simp only [← hr2] at hcmp'
            unfold rv at ht15'
            unfold Sl.v at k1 k2 ht15' hcmp'
            simp only [Nat.zero_add] at k1 k2 ht15' hcmp'
            clear hr2 hp' hu hlt' hap' hx1
            have iq0 : (0 : Int) < q := by omega
            have iq1 : (0 : Int) ≤ (q : Int) - 1 := by omega
            have iq2 : (q : Int) - 1 < L := by omega
            have iq3 : ((q : Int) - 1).toNat = q' := by omega
            clear hq'
            have hz7 : w4.heap.size ≤ W7.heap.size := HB7.out.size
            go_wp2_with fail
            refine (ht15' _).mono ?_
            rintro e w9 ⟨rfl, o9, rfl⟩
            have HB9 : Hid (Below w4.heap.size w4 (W7.alloc o9)) := HB7.out.alloc hz7 _
            go_wp2_with fail
            refine (hcmp' _ HB9.out).mono ?_
            rintro e w10 ⟨rfl, n10, rfl⟩
            have HB10 : Hid (Below w4.heap.size w4 ((W7.alloc o9).drewN n10)) := below_drewN HB9.out _
            go_wp2_with fail
            refine (HCov.out _ HB10.out).mono ?_
            rintro e w8 ⟨rfl, hB8⟩
            have HB8 : Hid (Below w4.heap.size w4 w8) := HB10.out.trans (hB8.mono HB10.out.size)
            clear hB8
            go_wp2
            go_roundg (G - 1)
            case measure => omega
            case rel => exact ⟨q + 1, by omega, by go_num, HB8⟩
    · have hqL : q = L := by omega
      clear hqL
      go_wp2
      go_loopg [8] N (fun gk i wr' => ∃ (j : Nat), gk + j = N ∧ i = .int .i64 j ∧ Hid (Below w4.heap.size w4 wr'))
      case atStart => exact ⟨0, by omega, rfl, HBr⟩
      case round =>
        obtain ⟨j, hj, rfl, HBs⟩ := hrel
        obtain ⟨G2, rfl⟩ : ∃ G, G = gk := ⟨_, rfl⟩
        by_cases hjN : j < N
        · obtain ⟨p, hp⟩ : ∃ p, ys[j]? = some p := ⟨ys[j]'(by rw [← HNy.out]; exact hjN), by simp⟩
          obtain ⟨b, o, e, c1, c2'⟩ := HRow4.out j p hp
          subst e
          have hbl : b < w4.heap.size := World.block_lt_of_cell? w4 _ c1
          replace c1 := (HBs.out.cell (p := ⟨b, o + j * 2, none⟩) hbl).trans c1
          replace c2' := (HBs.out.cell (p := ⟨b, o + j * 2 + 1, none⟩) hbl).trans c2'
          have hap := HAll4.out p (List.mem_of_getElem? hp)
          have hins := ins18 g L N M p wr HLM.out.symm (by omega) (HRowM.out.below HBs.out) (HAllM.out.below HBs.out) (hap.1.below HBs.out) (hap.2.below HBs.out) (by
            obtain ⟨x, hx, hw⟩ := HInv.out.ins (pl p) (List.mem_map.mpr ⟨p, List.mem_of_getElem? hp, rfl⟩)
            obtain ⟨q', hq', rfl⟩ := List.mem_map.mp hx
            exact ⟨q', hq', (wthB_iff _ _ _).mpr hw⟩)
          clear hp hap
          obtain ⟨⟨xa, xn, xc, xl⟩, ⟨ya, yn, yc, yl⟩⟩ := p
          unfold rv at hins
          unfold Sl.v at c1 c2' hins
          simp only at c1 c2' hins
          have ij : (j : Int) < N := by omega
          go_wp2_with fail
          refine hins.mono ?_
          rintro e w7 ⟨rfl, hB7⟩
          have HB7 : Hid (Below w4.heap.size w4 w7) := HBs.out.trans (hB7.mono HBs.out.size)
          clear hB7 hins
          go_wp2
          go_roundg (G2 - 1)
          case measure => omega
          case rel => exact ⟨j + 1, by omega, by go_num, HB7⟩
        · go_wp2
          go_ret
          exact ⟨rfl, HB4.out.trans (HBs.out.mono hz4)⟩
end Go.Proofs.Qxb6600979a
