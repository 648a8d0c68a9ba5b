import Derived.Test.Qxb6602907aR21
import Derived.Test.Qxb6602907aR22
import Derived.Deep.CutBlock
import Derived.Deep.DeepCutAuto
import Derived.Deep.LoopGhost
import Derived.Deep.RegionWith
import Derived.Deep.DrawnRows
namespace Go.Proofs.Qxb6602907a
open Go.RowKit
set_option linter.unusedVariables false
attribute [local go_sem ↓] Go.wp_at_zero Go.wp_at_succ

theorem gcnt_step {cl : List Ch} {m : Nat} {c c' : Ch} (h' : cl[m + 1]? = some c') (hle : c'.i0 - c.i1 ≤ 6) : gcnt c (cl.drop (m + 1)) = gcnt c' (cl.drop (m + 1 + 1)) + 1 := by
  have hlt : m + 1 < cl.length := by
    rcases Nat.lt_or_ge (m + 1) cl.length with h | h
    · exact h
    · rw [List.getElem?_eq_none h] at h'; cases h'
  rw [List.drop_eq_getElem_cons hlt]
  rw [List.getElem?_eq_getElem hlt] at h'
  simp at h'
  rw [h', gcnt, if_pos hle]

theorem gcnt_stop {cl : List Ch} {m : Nat} {c c' : Ch} (h' : cl[m + 1]? = some c') (hle : ¬ c'.i0 - c.i1 ≤ 6) : gcnt c (cl.drop (m + 1)) = 0 := by
  have hlt : m + 1 < cl.length := by
    rcases Nat.lt_or_ge (m + 1) cl.length with h | h
    · exact h
    · rw [List.getElem?_eq_none h] at h'; cases h'
  rw [List.drop_eq_getElem_cons hlt]
  rw [List.getElem?_eq_getElem hlt] at h'
  simp at h'
  rw [h', gcnt, if_neg hle]

/-- Every change of the list lies within the texts. -/
def ChBd (nF nT : Int) (c : Ch) : Prop := 0 ≤ c.i0 ∧ c.i0 ≤ c.i1 ∧ c.i1 ≤ nF ∧ 0 ≤ c.j0 ∧ c.j0 ≤ c.j1 ∧ c.j1 ≤ nT

theorem COK.bd {nF nT : Int} : ∀ {cs : List Ch} {b : Bool} {pi pj : Int}, COK nF nT b pi pj cs → ∀ (k : Nat) (c : Ch), cs[k]? = some c → ChBd nF nT c
  | [], _, _, _, _, k, c, h => by simp at h
  | d :: r, _, _, _, hk, 0, c, h => by simp at h; subst h; exact hk.1
  | d :: r, _, _, _, hk, k + 1, c, h => by simp at h; exact COK.bd hk.2.2.2.2 k c h

theorem bcell {W w1 : World} (hb : Below W.heap.size W w1) : (∀ b o, b < W.heap.size → w1.cell? ⟨b, o, none⟩ = W.cell? ⟨b, o, none⟩) ∧ (∀ b o, b < W.heap.size → w1.frozen? ⟨b, o, none⟩ = W.frozen? ⟨b, o, none⟩) :=
  ⟨fun b o h => hb.cell (p := ⟨b, o, none⟩) h, fun b o h => hb.frozen (p := ⟨b, o, none⟩) h⟩

theorem hvar_new (w : World) (fr tw fc tc : Int) (rv : Value) : HVar (w.alloc (.cells #[.int .i64 fr, .int .i64 tw, .int .i64 fc, .int .i64 tc, rv] 36)) w.heap.size fr tw fc tc rv := by
  refine ⟨?_, ?_, ?_, ?_, ?_, ?_⟩ <;> simp

theorem HVar.set1 {w : World} {g : Nat} {fr tw fc tc : Int} {rv : Value} (h : HVar w g fr tw fc tc rv) (tw' : Int) : HVar (w.setCell ⟨g, 1, none⟩ (.int .i64 tw')) g fr tw' fc tc rv := by
  obtain ⟨a0, a1, a2, a3, a4, a5⟩ := h
  refine ⟨?_, ?_, ?_, ?_, ?_, fun j => ?_⟩
  · rw [World.cell?_setCell_other _ _ _ _ (by simp)]; exact a0
  · exact World.cell?_setCell_same _ _ _ a1
  · rw [World.cell?_setCell_other _ _ _ _ (by simp)]; exact a2
  · rw [World.cell?_setCell_other _ _ _ _ (by simp)]; exact a3
  · rw [World.cell?_setCell_other _ _ _ _ (by simp)]; exact a4
  · simpa using a5 j

theorem chis_two (w : World) (a b : Ch) :
    ChIs ((w.alloc (.cells #[.int .i64 a.i0, .int .i64 a.i1, .int .i64 a.j0, .int .i64 a.j1] 44)).alloc (.cells #[.int .i64 b.i0, .int .i64 b.i1, .int .i64 b.j0, .int .i64 b.j1] 44)) w.heap.size 0 a ∧
    ChIs ((w.alloc (.cells #[.int .i64 a.i0, .int .i64 a.i1, .int .i64 a.j0, .int .i64 a.j1] 44)).alloc (.cells #[.int .i64 b.i0, .int .i64 b.i1, .int .i64 b.j0, .int .i64 b.j1] 44)) (w.heap.size + 1) 0 b := by
  refine ⟨⟨?_, ?_, ?_, ?_⟩, ⟨?_, ?_, ?_, ?_⟩⟩ <;> simp

set_option maxHeartbeats 40000000 in
set_option maxRecDepth 8000 in
theorem group14 (s1 s2 : ByteArray) (b1 o1 n1 c1 b2 o2 n2 c2 : Nat) (z1 z2 : List Int) (ao : Option Addr) (N cap : Nat) (cs : List Ch) (w : World)
    (hI1 : I32At w b1 o1 z1) (HZ1 : Hid (z1.length = n1)) (hT1 : TextOK s1 z1) (hI2 : I32At w b2 o2 z2) (HZ2 : Hid (z2.length = n2)) (hT2 : TextOK s2 z2)
    (hn1 : n1 ≤ 1048576) (hn2 : n2 ≤ 1048576) (hs1 : s1.size ≤ 1048576) (hs2 : s2.size ≤ 1048576)
    (hc : ChAt w ao cs) (HN : Hid (N = cs.length)) (hN : N ≤ 1048576) (hcap : N ≤ cap) (hcm : cap ≤ maxLen) (hok : COK ((n1 : Int) - 1) ((n2 : Int) - 1) true 0 0 cs) :
    Calls Try.prog 14 #[.agg #[.string s1, .slice (some ⟨b1, o1, none⟩) n1 c1], .agg #[.string s2, .slice (some ⟨b2, o2, none⟩) n2 c2], .slice ao N cap] w fun e w' =>
      ∃ v, e = .returned v ∧ HunksIn w' (w.heap.size + 2) v (groupM s1 z1 s2 z2 ((n1 : Int) - 1) N cs) ∧ Below w.heap.size w w' := by
  have HI1 : Hid (I32At w b1 o1 z1 ∧ TextOK s1 z1) := ⟨hI1, hT1⟩
  have HI2 : Hid (I32At w b2 o2 z2 ∧ TextOK s2 z2) := ⟨hI2, hT2⟩
  have HC : Hid (ChAt w ao cs) := hc
  have HOK : Hid (COK ((n1 : Int) - 1) ((n2 : Int) - 1) true 0 0 cs) := hok
  clear hI1 hT1 hI2 hT2 hc hok
  unfold maxLen at hcm
  obtain ⟨i36, hi, hz0, hz1, hz2⟩ := info_parts Try.info36
  go_enter Try.func14, Try.ntmps14
  go_wp2
  obtain ⟨W0, hW0⟩ : ∃ W0, W0 = ((w.alloc (Obj.cells #[Value.string s1, Value.slice (some { block := b1, off := o1 }) n1 c1] 47)).alloc (Obj.cells #[Value.string s2, Value.slice (some { block := b2, off := o2 }) n2 c2] 47)) := ⟨_, rfl⟩
  have d1 : W0.cell? ⟨w.heap.size, 0, none⟩ = some (.string s1) := by rw [hW0]; simp
  have d2 : W0.cell? ⟨w.heap.size, 1, none⟩ = some (.slice (some ⟨b1, o1, none⟩) n1 c1) := by rw [hW0]; simp
  have d3 : W0.cell? ⟨w.heap.size + 1, 0, none⟩ = some (.string s2) := by rw [hW0]; simp
  have d4 : W0.cell? ⟨w.heap.size + 1, 1, none⟩ = some (.slice (some ⟨b2, o2, none⟩) n2 c2) := by rw [hW0]; simp
  have dz : W0.heap.size = w.heap.size + 2 := by rw [hW0]; simp
  have HW0 : Hid (Below w.heap.size w W0) := by rw [hW0]; exact ((Below.refl _ _).alloc (Nat.le_refl _) _).alloc (by simp) _
  rw [← hW0]
  clear hW0
  go_loopg [2, 7] N (fun gk v2 v7 wr => ∃ (cl : List Ch) (ao' : Option Addr) (L cap' : Nat) (dn : List Hk) (fst : Bool) (pi pj : Int), L ≤ gk ∧ L ≤ cap' ∧ cap' ≤ 9223372036854775807 ∧ v2 = .slice ao' L cap' ∧
      Hid (L = cl.length ∧ ChAt w ao' cl ∧ COK ((n1 : Int) - 1) ((n2 : Int) - 1) fst pi pj cl ∧ dn ++ groupM s1 z1 s2 z2 ((n1 : Int) - 1) gk cl = groupM s1 z1 s2 z2 ((n1 : Int) - 1) N cs ∧
        dn.length + gk ≤ N ∧ HunksIn wr (w.heap.size + 2) v7 dn) ∧ Hid (Below (w.heap.size + 2) W0 wr))
  case atStart => exact ⟨cs, ao, N, cap, [], true, 0, 0, by omega, by omega, by omega, rfl, ⟨HN.out, HC.out, HOK.out, rfl, by simp, HunksIn.nil _ _⟩, Below.refl _ _⟩
  case round =>
    obtain ⟨cl, ao', L, cap', dn, fst, pi, pj, hLg, hLc, hcm', rfl, HR, HB⟩ := hrel
    obtain ⟨G, rfl⟩ : ∃ G, G = gk := ⟨_, rfl⟩
    by_cases hlt : 0 < L
    · obtain ⟨c0, r, rfl⟩ : ∃ c0 r, cl = c0 :: r := by
        cases cl with
        | nil => have := HR.out.1; simp at this; omega
        | cons c r => exact ⟨c, r, rfl⟩
      obtain ⟨b, o, rfl, q⟩ := HR.out.2.1 0 c0 rfl
      have hbl : b < w.heap.size := World.block_lt_of_cell? w _ q.1
      have HBw : Hid (Below w.heap.size w wr) := HW0.out.trans (HB.out.mono (by omega))
      have i0k : (0 : Int) < L := by omega
      go_upto_block 2 with fail
      go_cut [8] (fun v8 wc => v8 = .int .i64 ((gcnt c0 r : Int) + 1) ∧ ∃ nd, wc = wr.drewN nd)
      case first =>
        go_wp2
        go_loopg [8] L (fun gq v8 wq => ∃ m : Nat, gq + m = L ∧ 0 < gq ∧ v8 = .int .i64 ((m : Int) + 1) ∧ Hid (∃ c, (c0 :: r)[m]? = some c ∧ gcnt c0 r = m + gcnt c ((c0 :: r).drop (m + 1))) ∧ ∃ nd, wq = wr.drewN nd)
        case atStart => exact ⟨0, by omega, by omega, rfl, ⟨c0, rfl, by simp⟩, 0, rfl⟩
        case round =>
          obtain ⟨m, hm1, hm2, rfl, hm, nd, rfl⟩ := hrel
          obtain ⟨c, hcm0, hcnt⟩ := hm.out
          have HCN : Hid (gcnt c0 r = m + gcnt c ((c0 :: r).drop (m + 1))) := hcnt
          have HCM : Hid ((c0 :: r)[m]? = some c) := hcm0
          have hbc := COK.bd HR.out.2.2.1 m c hcm0
          clear hcnt hcm0
          by_cases hl2 : m + 1 < L
          · obtain ⟨c', hc'⟩ : ∃ c', (c0 :: r)[m + 1]? = some c' := ⟨(c0 :: r)[m + 1]'(by rw [← HR.out.1]; exact hl2), by simp⟩
            have hbc' := COK.bd HR.out.2.2.1 (m + 1) c' hc'
            obtain ⟨b', o', he, q'⟩ := HR.out.2.1 (m + 1) c' hc'
            obtain ⟨rfl, rfl⟩ : b = b' ∧ o = o' := by simpa using he
            obtain ⟨b', o', he2, q2⟩ := HR.out.2.1 m c HCM.out
            obtain ⟨rfl, rfl⟩ : b = b' ∧ o = o' := by simpa using he2
            have q' := q'.below HBw.out hbl
            have q2 := q2.below HBw.out hbl
            have g1 := q'.1
            have g2 := q2.2.1
            have HC' : Hid ((c0 :: r)[m + 1]? = some c') := hc'
            clear q' q2 hc' he he2 q
            obtain ⟨x0, x1, x2, x3⟩ := c
            obtain ⟨y0, y1, y2, y3⟩ := c'
            unfold ChBd at hbc hbc'
            simp only at g1 g2 hbc hbc'
            have i1 : (m : Int) + 1 < L := by omega
            have i2 : (m : Int) < L := by omega
            by_cases hle : y0 - x1 ≤ 6
            · go_wp2
              go_quiet (fail)
              go_wp2
              go_roundg (gk - 1)
              case measure => omega
              case rel => exact ⟨m + 1, by omega, by omega, by go_num, ⟨_, HC'.out, by rw [HCN.out, gcnt_step (c := ⟨x0, x1, x2, x3⟩) HC'.out (by simp only; omega)]; omega⟩, _, rfl⟩
            · go_wp2
              go_quiet (fail)
              go_wp2
              go_meet
              case rel => exact ⟨by rw [HCN.out, gcnt_stop (c := ⟨x0, x1, x2, x3⟩) HC'.out (by simp only; omega)]; simp, _, drewN_add _ _ _⟩
          · have hd : decide ((m : Int) + 1 < (L : Int)) = false := decide_eq_false (by omega)
            go_wp2
            go_quiet (fail)
            go_wp2
            go_meet
            case rel => exact ⟨by rw [HCN.out, List.drop_eq_nil_of_le (by rw [← HR.out.1]; omega)]; simp [gcnt], _, drewN_add _ _ _⟩
      case rest =>
        obtain ⟨rfl, nd, hwc⟩ := hcut
        obtain ⟨wd, rfl⟩ : ∃ wd, wd = wc := ⟨_, rfl⟩
        have HBd : Hid (Below wr.heap.size wr wd) := by rw [hwc]; exact below_drewN (Below.refl _ _) _
        have hdz : wr.heap.size ≤ wd.heap.size := HBd.out.size
        clear hwc
        obtain ⟨M, HM⟩ : ∃ M, Hid (M = gcnt c0 r) := ⟨_, rfl⟩
        rw [← HM.out]
        have hML : M + 1 ≤ L := by rw [HM.out, HR.out.1]; have := gcnt_le c0 r; simp only [List.length_cons]; omega
        obtain ⟨cz, hcz⟩ : ∃ cz, (c0 :: r)[M]? = some cz := ⟨(c0 :: r)[M]'(by rw [← HR.out.1]; omega), by simp⟩
        have HCZ : Hid ((c0 :: r)[M]? = some cz) := hcz
        have hbd0 := COK.bd HR.out.2.2.1 0 c0 rfl
        have hbdz := COK.bd HR.out.2.2.1 M cz hcz
        obtain ⟨b', o', he, qz⟩ := HR.out.2.1 M cz hcz
        obtain ⟨rfl, rfl⟩ : b = b' ∧ o = o' := by simpa using he
        have hbr : b < wr.heap.size := by have := HBw.out.size; omega
        have q := (q.below HBw.out hbl).below HBd.out hbr
        have qz := (qz.below HBw.out hbl).below HBd.out hbr
        clear he hcz
        simp only [Nat.zero_mul, Nat.add_zero] at q
        obtain ⟨p1, p2, p3, p4⟩ := q
        obtain ⟨r1, r2, r3, r4⟩ := qz
        have i2 : (M : Int) < L := by omega
        have i4 : (0 : Int) ≤ M := by omega
        obtain ⟨n8, H8⟩ : ∃ n8 : Int, Hid (n8 = (M : Int) + 1) := ⟨_, rfl⟩
        rw [← H8.out]
        unfold ChBd at hbd0 hbdz
        go_upto_region 6 with fail
        go_cut [8, 9, 10] (fun v8 v9 v10 wc => ∃ x y, v8 = .int .i64 ((M : Int) + 1) ∧ v9 = .pointer (some ⟨x, 0, none⟩) ∧ v10 = .pointer (some ⟨y, 0, none⟩) ∧ ChIs wc x 0 c0 ∧ ChIs wc y 0 cz ∧ Hid (Below wr.heap.size wr wc) ∧ wr.heap.size ≤ x ∧ wr.heap.size ≤ y)
        case first =>
          have i6 : n8 - 1 = M := by rw [H8.out]; omega
          have hb0 : b < wd.heap.size := by omega
          have hb1 : b < wd.heap.size + 1 := by omega
          go_big_region
          all_goals go_wp2
          all_goals go_meet
          all_goals (case rel => exact ⟨_, _, by rw [H8.out], rfl, rfl, by first | exact (chis_two wd c0 cz).1 | exact (chis_two wd cz c0).2, by first | exact (chis_two wd c0 cz).2 | exact (chis_two wd cz c0).1, ((HBd.out.alloc hdz _).alloc (by simp; omega) _).drew, by omega, by omega⟩)
        case rest =>
          obtain ⟨x, y, rfl, rfl, rfl, ⟨x1, x2, x3, x4⟩, ⟨y1, y2, y3, y4⟩, HBc, hxw, hyw⟩ := hcut
          simp only [Nat.zero_add] at x2 x3 x4 y2 y3 y4
          obtain ⟨wq, rfl⟩ : ∃ wq, wq = wc := ⟨_, rfl⟩
          obtain ⟨I0, HI0⟩ : ∃ I0, Hid (I0 = hI0 c0) := ⟨_, rfl⟩
          have j1 : 0 ≤ I0 ∧ I0 ≤ c0.i0 ∧ c0.i0 - 3 ≤ I0 ∧ (I0 ≤ 0 ∨ I0 ≤ c0.i0 - 3) := by rw [HI0.out]; unfold hI0; omega
          go_upto_region 7 with fail
          go_cut [11] (fun v11 wc => v11 = .int .i64 I0 ∧ wc = wq)
          case first =>
            go_wp2
            all_goals go_meet
            all_goals (case rel => exact ⟨by congr 1; omega, rfl⟩)
          case rest =>
            obtain ⟨rfl, hq⟩ := hcut
            rw [hq]
            clear hq
            have hcz : wr.heap.size ≤ wq.heap.size := HBc.out.size
            have hxq : x < wq.heap.size := World.block_lt_of_cell? wq _ x1
            have hyq : y < wq.heap.size := World.block_lt_of_cell? wq _ y1
            have HW : Hid (Below (w.heap.size + 2) W0 wq) := HB.out.trans (HBc.out.mono (by have := HB.out.size; omega))
            have e1 := (HW.out.cell (p := ⟨w.heap.size, 0, none⟩) (by simp)).trans d1
            have e2 := (HW.out.cell (p := ⟨w.heap.size, 1, none⟩) (by simp)).trans d2
            obtain ⟨I1, HI1'⟩ : ∃ I1, Hid (I1 = hI1 ((n1 : Int) - 1) cz) := ⟨_, rfl⟩
            have j2 : cz.i1 ≤ I1 ∧ I1 ≤ (n1 : Int) - 1 ∧ I1 ≤ cz.i1 + 3 ∧ ((n1 : Int) - 1 ≤ I1 ∨ cz.i1 + 3 ≤ I1) := by rw [HI1'.out]; unfold hI1; omega
            have hwx : w.heap.size + 2 ≤ wq.heap.size := by have := HB.out.size; omega
            have hw3 : IntKind.i64.wrap (cz.i1 + 3) = cz.i1 + 3 := IntWalk.i64_in _ (by omega)
            go_upto_region 9 with fail
            go_cut [13] (fun v13 wc => v13 = .int .i64 I1 ∧ Hid (Below wq.heap.size wq wc))
            case first =>
              go_region_with (first | (go_at_call 17; refine (count17 _ _ _ _ _ hn1).mono ?_; rintro e w' ⟨rfl, hb⟩; have hy' := (hb.cell (p := ⟨y, 1, none⟩) hyq).trans y2))
              all_goals go_wp2
              all_goals go_meet
              all_goals (case rel => exact ⟨by congr 1; omega, below_undrew (by assumption)⟩)
            case rest =>
              obtain ⟨rfl, HBe⟩ := hcut
              obtain ⟨we, rfl⟩ : ∃ we, we = wc := ⟨_, rfl⟩
              clear hw3 e1 e2 p1 p2 p3 p4 r1 r2 r3 r4
              replace x1 := (HBe.out.cell (p := ⟨x, 0, none⟩) hxq).trans x1
              replace y1 := (HBe.out.cell (p := ⟨y, 0, none⟩) hyq).trans y1
              replace x2 := (HBe.out.cell (p := ⟨x, 1, none⟩) hxq).trans x2
              replace y2 := (HBe.out.cell (p := ⟨y, 1, none⟩) hyq).trans y2
              replace x3 := (HBe.out.cell (p := ⟨x, 2, none⟩) hxq).trans x3
              replace y3 := (HBe.out.cell (p := ⟨y, 2, none⟩) hyq).trans y3
              replace x4 := (HBe.out.cell (p := ⟨x, 3, none⟩) hxq).trans x4
              replace y4 := (HBe.out.cell (p := ⟨y, 3, none⟩) hyq).trans y4
              go_upto_if 86 with fail
              go_cut [] (fun wc => HVar wc we.heap.size (bump (I1 - I0) I0) (c0.j0 - (c0.i0 - I0)) (I1 - I0) (cz.j1 + (I1 - cz.i1) - (c0.j0 - (c0.i0 - I0))) (.slice none 0 0) ∧ Hid (Below we.heap.size we wc) ∧ wc.heap.size = we.heap.size + 1)
              case first =>
                by_cases hI : I0 < I1
                · have HU : Hid (bump (I1 - I0) I0 = I0 + 1) := if_pos (by omega)
                  go_wp2
                  go_meet
                  case rel => rw [HU.out]; exact ⟨hvar_new _ _ _ _ _ _, (Below.refl _ _).alloc (Nat.le_refl _) _, by simp⟩
                · have HU : Hid (bump (I1 - I0) I0 = I0) := if_neg (by omega)
                  go_wp2
                  go_meet
                  case rel => rw [HU.out]; exact ⟨hvar_new _ _ _ _ _ _, (Below.refl _ _).alloc (Nat.le_refl _) _, by simp⟩
              case rest =>
                obtain ⟨⟨h0, h1, h2, h3, h4, hfz⟩, HBf, hzf⟩ := hcut
                obtain ⟨wf, rfl⟩ : ∃ wf, wf = wc := ⟨_, rfl⟩
                obtain ⟨g, HG⟩ : ∃ g, Hid (g = we.heap.size) := ⟨_, rfl⟩
                rw [← HG.out] at h0 h1 h2 h3 h4 hfz hzf ⊢
                obtain ⟨TC, HTC⟩ : ∃ TC, Hid (TC = (cz.j1 + (I1 - cz.i1) - (c0.j0 - (c0.i0 - I0)))) := ⟨_, rfl⟩
                rw [← HTC.out] at h3
                go_upto_if 93 with fail
                go_cut [] (fun wc => HVar wc g (bump (I1 - I0) I0) (bump TC (c0.j0 - (c0.i0 - I0))) (I1 - I0) TC (.slice none 0 0) ∧ Hid (Below we.heap.size we wc) ∧ wc.heap.size = g + 1)
                case first =>
                  by_cases hI : 0 < TC
                  · have HU : Hid (bump TC (c0.j0 - (c0.i0 - I0)) = (c0.j0 - (c0.i0 - I0)) + 1) := if_pos (by omega)
                    go_wp2
                    go_meet
                    case rel => rw [HU.out]; exact ⟨HVar.set1 ⟨h0, h1, h2, h3, h4, hfz⟩ _, HBf.out.setCell (by rw [HG.out]; exact Nat.le_refl _) _, by simpa using hzf⟩
                  · have HU : Hid (bump TC (c0.j0 - (c0.i0 - I0)) = (c0.j0 - (c0.i0 - I0))) := if_neg (by omega)
                    go_wp2
                    go_meet
                    case rel => rw [HU.out]; exact ⟨⟨h0, h1, h2, h3, h4, hfz⟩, HBf.out, hzf⟩
                case rest =>
                  clear h0 h1 h2 h3 h4 hfz HBf hzf
                  obtain ⟨HV, HBf, hzf⟩ := hcut
                  obtain ⟨wf, rfl⟩ : ∃ wf, wf = wc := ⟨_, rfl⟩
                  have HVf : Hid (HVar wf g (bump (I1 - I0) I0) (bump TC (c0.j0 - (c0.i0 - I0))) (I1 - I0) TC (.slice none 0 0)) := HV
                  obtain ⟨FR, HFR⟩ : ∃ FR, Hid (FR = bump (I1 - I0) I0) := ⟨_, rfl⟩
                  obtain ⟨TW, HTW⟩ : ∃ TW, Hid (TW = bump TC (c0.j0 - (c0.i0 - I0))) := ⟨_, rfl⟩
                  rw [← HFR.out, ← HTW.out] at HVf
                  clear HV x1 x2 x3 x4 y1 y2 y3 y4 hxw hyw hxq hyq
                  have hgz : g < wf.heap.size := by omega
                  -- what the arguments and the boxes hold, in every later world that is as wf below g
                  have hwg : w.heap.size + 2 ≤ g := by rw [HG.out]; have := HBe.out.size; omega
                  have HWf : Hid (Below (w.heap.size + 2) W0 wf) := HW.out.trans ((HBe.out.mono hwx).trans (HBf.out.mono (by rw [← HG.out]; omega)))
                  have hcap2 : (M : Int) + 1 ≤ cap' := by omega
                  have hwrg : wr.heap.size ≤ g := by rw [HG.out]; have := HBe.out.size; omega
                  have HBrf : Hid (Below wr.heap.size wr wf) := HBc.out.trans ((HBe.out.mono hcz).trans (HBf.out.mono (by rw [← HG.out]; omega)))
                  have HHk : Hid (∀ W, Below g wf W → HunksIn W (w.heap.size + 2) u7 dn) := fun W hW => HR.out.2.2.2.2.2.below (HBrf.out.trans (hW.mono hwrg)) (Nat.le_refl _)
                  go_wp2
                  go_loopg [16, 103] (M + 1) (fun gk v16 v103 wl => ∃ (q : Nat) (att : Int) (rv : Value) (rs : List (Int × ByteArray)), gk + q = M + 1 ∧ v103 = .int .i64 q ∧ v16 = .int .i64 att ∧
                    Hid (((c0 :: r).take q).foldl (stepRuns s1 z1 s2 z2) ([], I0) = (rs, att)) ∧ Hid (HVar wl g FR TW (I1 - I0) TC rv) ∧ Hid (RunsIn wl (g + 1) rv rs) ∧ Hid (rs.length ≤ 3 * q) ∧ Hid (Below g wf wl) ∧ g < wl.heap.size)
                  case atStart => exact ⟨0, I0, .slice none 0 0, [], by omega, rfl, rfl, rfl, HVf, World.ownsRow_nil _ _ _ _, by simp [Hid], Below.refl _ _, hgz⟩
                  case round =>
                    obtain ⟨wl, rfl⟩ : ∃ wl, wl = wr := ⟨_, rfl⟩
                    obtain ⟨q, att, rv, rs, hq, rfl, rfl, HF, HV, HRv, HRl, HBl, hgl⟩ := hrel
                    by_cases hqM : q < M + 1
                    · obtain ⟨c, hcq⟩ : ∃ c, (c0 :: r)[q]? = some c := ⟨(c0 :: r)[q]'(by rw [← HR.out.1]; omega), by simp⟩
                      have HCQ : Hid ((c0 :: r)[q]? = some c) := hcq
                      have hbc := COK.bd HR.out.2.2.1 q c hcq
                      have hatt := fold_att s1 z1 s2 z2 HR.out.2.2.1 (fun k c h => by have := COK.bd HR.out.2.2.1 k c h; unfold ChBd at this; omega) c0 rfl q c hcq
                      rw [← HI0.out, HF.out] at hatt
                      unfold ChBd at hbc
                      simp only at hatt
                      obtain ⟨b', o', he, qc⟩ := HR.out.2.1 q c hcq
                      obtain ⟨rfl, rfl⟩ : b = b' ∧ o = o' := by simpa using he
                      have HWl : Hid (Below (w.heap.size + 2) W0 wl) := HWf.out.trans (HBl.out.mono hwg)
                      have HWw : Hid (Below w.heap.size w wl) := HW0.out.trans (HWl.out.mono (by omega))
                      have qc := qc.below HWw.out hbl
                      obtain ⟨r1, r2, r3, r4⟩ := qc
                      clear he hcq
                      have iq : (q : Int) < (M : Int) + 1 := by omega
                      have iq0 : (0 : Int) ≤ q := by omega
                      go_upto_region 20 with fail
                      obtain ⟨bc, HBC⟩ : ∃ bc, Hid (bc = wl.heap.size) := ⟨_, rfl⟩
                      obtain ⟨wa, hwa⟩ : ∃ wa, wa = wl.alloc (Obj.cells #[Value.int IntKind.i64 c.i0, Value.int IntKind.i64 c.i1, Value.int IntKind.i64 c.j0, Value.int IntKind.i64 c.j1] 44) := ⟨_, rfl⟩
                      have HKa : Hid (wa.heap[bc]? = some (.cells #[.int .i64 c.i0, .int .i64 c.i1, .int .i64 c.j0, .int .i64 c.j1] 44 (0, 0))) := by rw [hwa, HBC.out]; exact heap_alloc_new wl _
                      have HBa : Hid (Below wl.heap.size wl wa) := by rw [hwa]; exact (Below.refl _ _).alloc (Nat.le_refl _) _
                      have hgbc : g < bc := by rw [HBC.out]; exact hgl
                      rw [← hwa, ← HBC.out]
                      clear hwa r1 r2 r3 r4
                      have HVa : Hid (HVar wa g FR TW (I1 - I0) TC rv) := HV.out.kept (HBa.out.block g hgl)
                      have HRa : Hid (RunsIn wa (g + 1) rv rs) := owns_below HRv.out HBa.out (fun k hk => (World.ownsRow.lt HRv.out k hk).2)
                      have HBga : Hid (Below g wf wa) := HBl.out.trans (HBa.out.mono (by omega))
                      have hga : g < wa.heap.size := by have := HBa.out.size; omega
                      have hrl : rs.length ≤ 3 * q := HRl.out
                      have hLN : L ≤ 1048576 := by have := HR.out.2.2.2.2.1; omega
                      go_upto_region 20 with fail
                      have HWwa : Hid (Below (w.heap.size + 2) W0 wa) := HWf.out.trans (HBga.out.mono hwg)
                      have e1 := (HWwa.out.cell (p := ⟨w.heap.size, 0, none⟩) (by simp)).trans d1
                      have e2 := (HWwa.out.cell (p := ⟨w.heap.size, 1, none⟩) (by simp)).trans d2
                      have hv4 := HVa.out.2.2.2.2.1
                      have hvf := HVa.out.2.2.2.2.2 4
                      have hbx : w.heap.size < wa.heap.size := by omega
                      have hbcx : bc < wa.heap.size := (Array.getElem?_eq_some_iff.1 HKa.out).1
                      have HIwa : Hid (I32At wa b1 o1 z1) := HI1.out.1.below (HW0.out.trans (HWwa.out.mono (by omega))) (HI1.out.1.lt (by rw [HZ1.out]; omega))
                      have hk0 : wa.cell? ⟨bc, 0, none⟩ = some (.int .i64 c.i0) := (chis_of_block HKa.out).1
                      go_cut [] (fun wc => ∃ rva, Hid (HVar wc g FR TW (I1 - I0) TC rva) ∧ Hid (RunsIn wc (g + 1) rva (addRun rs 32 (segI s1 z1 (att) (c.i0)))) ∧ Hid (wc.heap[bc]? = some (.cells #[.int .i64 c.i0, .int .i64 c.i1, .int .i64 c.j0, .int .i64 c.j1] 44 (0, 0))) ∧ Hid (Below g wf wc) ∧ g < wc.heap.size)
                      case first =>
                        refine wp_onlyN (reg20 _ (by rfl) _ wa wf s1 b1 o1 n1 c1 z1 w.heap.size g FR TW (I1 - I0) TC rv rs c bc hgbc HKa.out att _ _ _ _ _ _ _ _ _ _ _ _ _ _ _ _ _ _ _ _ _ _ _ _ _ _ _ _ _ _ _ _ _ _ _ _ _ _ _ _ _ _ _ _ _ _ _ _ _ _ _ _ _ _ _ _ _ _ _ _ _ _ _ _ _ _ _ _ _ _ _ _ _ _ _ _ _ _ _ _ _ _ _ _ _ _ _ _ _ _ _ _ _ _ _ _ _ _ _ _ _ _ _ _ _ _ _ _ _ _ _ _ _ _ _ _ _ _ _ _ _ _ _ _ _ _ _ _ _ _ _ _ _ _ _ _ _ _ _ _ _ _ _ _ _ _ _ _ _ _ _ HIwa.out HZ1.out HI1.out.2 hn1 hs1 (by omega) (by omega) (by omega) (by omega) e1 e2 hbx HVa.out HRa.out HBga.out hga ?_)
                        intro _ _ _ _ _ _ _ _ _ rvn wn k1 k2 k3 k4 k5
                        go_wp2
                        go_meet
                        case rel => exact ⟨_, k1, k2, k3, k4, k5⟩
                      case rest =>
                        obtain ⟨rva, HVb, HRb, HKb, HBgb, hgb⟩ := hcut
                        obtain ⟨wb, rfl⟩ : ∃ wb, wb = wc := ⟨_, rfl⟩
                        obtain ⟨rsa, HSb⟩ : ∃ rsa, Hid (rsa = addRun rs 32 (segI s1 z1 (att) (c.i0))) := ⟨_, rfl⟩
                        rw [← HSb.out] at HRb
                        have hrlb : rsa.length ≤ rs.length + 1 := by rw [HSb.out]; exact addRun_length _ _ _
                        clear e1 e2 hv4 hvf hbx hbcx hk0
                        go_upto_region 21 with fail
                        have HWwb : Hid (Below (w.heap.size + 2) W0 wb) := HWf.out.trans (HBgb.out.mono hwg)
                        have e1 := (HWwb.out.cell (p := ⟨w.heap.size, 0, none⟩) (by simp)).trans d1
                        have e2 := (HWwb.out.cell (p := ⟨w.heap.size, 1, none⟩) (by simp)).trans d2
                        have hv4 := HVb.out.2.2.2.2.1
                        have hvf := HVb.out.2.2.2.2.2 4
                        have hbx : w.heap.size < wb.heap.size := by omega
                        have hbcx : bc < wb.heap.size := (Array.getElem?_eq_some_iff.1 HKb.out).1
                        have HIwb : Hid (I32At wb b1 o1 z1) := HI1.out.1.below (HW0.out.trans (HWwb.out.mono (by omega))) (HI1.out.1.lt (by rw [HZ1.out]; omega))
                        have hk0 : wb.cell? ⟨bc, 0, none⟩ = some (.int .i64 c.i0) := (chis_of_block HKb.out).1
                        have hk1 : wb.cell? ⟨bc, 1, none⟩ = some (.int .i64 c.i1) := (chis_of_block HKb.out).2.1
                        go_cut [] (fun wc => ∃ rvb, Hid (HVar wc g FR TW (I1 - I0) TC rvb) ∧ Hid (RunsIn wc (g + 1) rvb (addRun rsa 45 (segI s1 z1 (c.i0) (c.i1)))) ∧ Hid (wc.heap[bc]? = some (.cells #[.int .i64 c.i0, .int .i64 c.i1, .int .i64 c.j0, .int .i64 c.j1] 44 (0, 0))) ∧ Hid (Below g wf wc) ∧ g < wc.heap.size)
                        case first =>
                          refine wp_onlyN (reg21 _ (by rfl) _ wb wf s1 b1 o1 n1 c1 z1 w.heap.size g FR TW (I1 - I0) TC rva rsa c bc hgbc HKb.out _ _ _ _ _ _ _ _ _ _ _ _ _ _ _ _ _ _ _ _ _ _ _ _ _ _ _ _ _ _ _ _ _ _ _ _ _ _ _ _ _ _ _ _ _ _ _ _ _ _ _ _ _ _ _ _ _ _ _ _ _ _ _ _ _ _ _ _ _ _ _ _ _ _ _ _ _ _ _ _ _ _ _ _ _ _ _ _ _ _ _ _ _ _ _ _ _ _ _ _ _ _ _ _ _ _ _ _ _ _ _ _ _ _ _ _ _ _ _ _ _ _ _ _ _ _ _ _ _ _ _ _ _ _ _ _ _ _ _ _ _ _ _ _ _ _ _ _ _ _ _ _ HIwb.out HZ1.out HI1.out.2 hn1 hs1 (by omega) (by omega) (by omega) (by omega) e1 e2 hbx HVb.out HRb.out HBgb.out hgb ?_)
                          intro _ _ _ _ _ _ _ _ _ _ rvn wn k1 k2 k3 k4 k5
                          go_wp2
                          go_meet
                          case rel => exact ⟨_, k1, k2, k3, k4, k5⟩
                        case rest =>
                          obtain ⟨rvb, HVc2, HRc2, HKc2, HBgc2, hgc2⟩ := hcut
                          obtain ⟨wc2, rfl⟩ : ∃ wc2, wc2 = wc := ⟨_, rfl⟩
                          obtain ⟨rsb, HSc2⟩ : ∃ rsb, Hid (rsb = addRun rsa 45 (segI s1 z1 (c.i0) (c.i1))) := ⟨_, rfl⟩
                          rw [← HSc2.out] at HRc2
                          have hrlc2 : rsb.length ≤ rsa.length + 1 := by rw [HSc2.out]; exact addRun_length _ _ _
                          clear e1 e2 hv4 hvf hbx hbcx hk0 hk1
                          go_upto_region 22 with fail
                          have HWwc2 : Hid (Below (w.heap.size + 2) W0 wc2) := HWf.out.trans (HBgc2.out.mono hwg)
                          have e1 := (HWwc2.out.cell (p := ⟨w.heap.size + 1, 0, none⟩) (by simp)).trans d3
                          have e2 := (HWwc2.out.cell (p := ⟨w.heap.size + 1, 1, none⟩) (by simp)).trans d4
                          have hv4 := HVc2.out.2.2.2.2.1
                          have hvf := HVc2.out.2.2.2.2.2 4
                          have hbx : w.heap.size + 1 < wc2.heap.size := by omega
                          have hbcx : bc < wc2.heap.size := (Array.getElem?_eq_some_iff.1 HKc2.out).1
                          have HIwc2 : Hid (I32At wc2 b2 o2 z2) := HI2.out.1.below (HW0.out.trans (HWwc2.out.mono (by omega))) (HI2.out.1.lt (by rw [HZ2.out]; omega))
                          have hk2 : wc2.cell? ⟨bc, 2, none⟩ = some (.int .i64 c.j0) := (chis_of_block HKc2.out).2.2.1
                          have hk3 : wc2.cell? ⟨bc, 3, none⟩ = some (.int .i64 c.j1) := (chis_of_block HKc2.out).2.2.2
                          go_cut [] (fun wc => ∃ rvc, Hid (HVar wc g FR TW (I1 - I0) TC rvc) ∧ Hid (RunsIn wc (g + 1) rvc (addRun rsb 43 (segI s2 z2 (c.j0) (c.j1)))) ∧ Hid (wc.heap[bc]? = some (.cells #[.int .i64 c.i0, .int .i64 c.i1, .int .i64 c.j0, .int .i64 c.j1] 44 (0, 0))) ∧ Hid (Below g wf wc) ∧ g < wc.heap.size)
                          case first =>
                            refine wp_onlyN (reg22 _ (by rfl) _ wc2 wf s2 b2 o2 n2 c2 z2 w.heap.size g FR TW (I1 - I0) TC rvb rsb c bc hgbc HKc2.out _ _ _ _ _ _ _ _ _ _ _ _ _ _ _ _ _ _ _ _ _ _ _ _ _ _ _ _ _ _ _ _ _ _ _ _ _ _ _ _ _ _ _ _ _ _ _ _ _ _ _ _ _ _ _ _ _ _ _ _ _ _ _ _ _ _ _ _ _ _ _ _ _ _ _ _ _ _ _ _ _ _ _ _ _ _ _ _ _ _ _ _ _ _ _ _ _ _ _ _ _ _ _ _ _ _ _ _ _ _ _ _ _ _ _ _ _ _ _ _ _ _ _ _ _ _ _ _ _ _ _ _ _ _ _ _ _ _ _ _ _ _ _ _ _ _ _ _ _ _ _ _ HIwc2.out HZ2.out HI2.out.2 hn2 hs2 (by omega) (by omega) (by omega) (by omega) e1 e2 hbx HVc2.out HRc2.out HBgc2.out hgc2 ?_)
                            intro _ _ _ _ _ _ _ _ _ _ rvn wn k1 k2 k3 k4 k5
                            go_wp2
                            go_meet
                            case rel => exact ⟨_, k1, k2, k3, k4, k5⟩
                          case rest =>
                            obtain ⟨rvc, HVd2, HRd2, HKd2, HBgd2, hgd2⟩ := hcut
                            obtain ⟨wd2, rfl⟩ : ∃ wd2, wd2 = wc := ⟨_, rfl⟩
                            obtain ⟨rsc, HSd2⟩ : ∃ rsc, Hid (rsc = addRun rsb 43 (segI s2 z2 (c.j0) (c.j1))) := ⟨_, rfl⟩
                            rw [← HSd2.out] at HRd2
                            have hrld2 : rsc.length ≤ rsb.length + 1 := by rw [HSd2.out]; exact addRun_length _ _ _
                            clear e1 e2 hv4 hvf hbx hbcx hk2 hk3
                            have hk1 : wd2.cell? ⟨bc, 1, none⟩ = some (.int .i64 c.i1) := (chis_of_block HKd2.out).2.1
                            go_wp2
                            go_roundg (gk - 1)
                            case measure => omega
                            case rel => exact ⟨q + 1, c.i1, rvc, rsc, by omega, by go_num, rfl, by unfold Hid; rw [fold_end s1 z1 s2 z2 (c0 :: r) _ q c HCQ.out, HF.out, HSd2.out, HSc2.out, HSb.out]; rfl, HVd2, HRd2, by unfold Hid; omega, HBgd2, hgd2⟩
                    · obtain rfl : q = M + 1 := by omega
                      have HWl : Hid (Below (w.heap.size + 2) W0 wl) := HWf.out.trans (HBl.out.mono hwg)
                      have hfe := HF.out
                      rw [fold_end s1 z1 s2 z2 (c0 :: r) _ M cz HCZ.out] at hfe
                      obtain rfl : cz.i1 = att := by simpa [stepRuns] using congrArg Prod.snd hfe
                      clear hfe
                      have hrl : rs.length ≤ 3 * (M + 1) := HRl.out
                      have hLN : L ≤ 1048576 := by have := HR.out.2.2.2.2.1; omega
                      have e1 := (HWl.out.cell (p := ⟨w.heap.size, 0, none⟩) (by simp)).trans d1
                      have e2 := (HWl.out.cell (p := ⟨w.heap.size, 1, none⟩) (by simp)).trans d2
                      have hv4 := HV.out.2.2.2.2.1
                      have hvf := HV.out.2.2.2.2.2 4
                      have hbx : w.heap.size < wl.heap.size := by omega
                      have HIl : Hid (I32At wl b1 o1 z1) := HI1.out.1.below (HW0.out.trans (HWl.out.mono (by omega))) (HI1.out.1.lt (by rw [HZ1.out]; omega))
                      have iqn : ((M + 1 : Nat) : Int) = (M : Int) + 1 := by omega
                      rw [iqn]
                      clear iqn
                      go_upto_region 25 with fail
                      go_cut [] (fun wc => ∃ rva, Hid (HVar wc g FR TW (I1 - I0) TC rva) ∧ Hid (RunsIn wc (g + 1) rva (addRun rs 32 (segI s1 z1 cz.i1 I1))) ∧ Hid (Below g wf wc) ∧ g < wc.heap.size)
                      case first =>
                        refine wp_onlyN (reg25 _ (by rfl) _ wl wf s1 b1 o1 n1 c1 z1 w.heap.size g FR TW (I1 - I0) TC rv rs cz.i1 I1 _ _ _ _ _ _ _ _ _ _ _ _ _ _ _ _ _ _ _ _ _ _ _ _ _ _ _ _ _ _ _ _ _ _ _ _ _ _ _ _ _ _ _ _ _ _ _ _ _ _ _ _ _ _ _ _ _ _ _ _ _ _ _ _ _ _ _ _ _ _ _ _ _ _ _ _ _ _ _ _ _ _ _ _ _ _ _ _ _ _ _ _ _ _ _ _ _ _ _ _ _ _ _ _ _ _ _ _ _ _ _ _ _ _ _ _ _ _ _ _ _ _ _ _ _ _ _ _ _ _ _ _ _ _ _ _ _ _ _ _ _ _ _ _ _ _ _ _ _ _ _ HIl.out HZ1.out HI1.out.2 hn1 hs1 (by omega) (by omega) (by omega) (by omega) e1 e2 hbx HV.out HRv.out HBl.out hgl ?_)
                        intro _ _ _ _ _ _ _ _ rvn wn k1 k2 k4 k5
                        go_wp2
                        go_meet
                        case rel => exact ⟨_, k1, k2, k4, k5⟩
                      case rest =>
                        obtain ⟨rva, HVm, HRm, HBm, hgm⟩ := hcut
                        obtain ⟨wm, rfl⟩ : ∃ wm, wm = wc := ⟨_, rfl⟩
                        clear e1 e2 hv4 hvf hbx
                        obtain ⟨h0, h1, h2, h3, h4, hfz⟩ := HVm.out
                        obtain ⟨rvs, hrl2, hown, hrr⟩ := HHk.out wm HBm.out
                        have HOW : Hid (wm.ownsRow (w.heap.size + 2) 36 5 u7 dn.length (hksCells dn rvs)) := hown
                        have HRR : Hid (∀ (i : Nat) (h : Hk) (rv : Value), dn[i]? = some h → rvs[i]? = some rv → RunsIn wm (w.heap.size + 2) rv h.runs) := hrr
                        have HL2 : Hid (rvs.length = dn.length) := hrl2
                        clear hown hrr hrl2
                        have hdn : dn.length + G ≤ N := HR.out.2.2.2.2.1
                        obtain ⟨ao3, ln3, cp3, rfl⟩ := owns_shape HRm.out
                        have hmz : w.heap.size + 2 ≤ wm.heap.size := by omega
                        go_wp2_with (at_builtin; refine wpList_append_src _ rfl (.tmp 147) (.tmp 149) _ _ rfl (w.heap.size + 2) 36 i36 _ 5 56 Try.underlying27 hi hz0 hz1 hz2 rfl (by decide) u7 _ _ rfl (HOW.out.alloc _) _ 1 [.int .i64 FR, .int .i64 TW, .int .i64 (I1 - I0), .int .i64 TC, .slice ao3 ln3 cp3] rfl (Src.ofSlice _ Try.underlying27 ⟨wm.heap.size, 0, none⟩ 1 1 _ rfl (World.news_of_block (cs := #[.int .i64 FR, .int .i64 TW, .int .i64 (I1 - I0), .int .i64 TC, .slice ao3 ln3 cp3]) (heap_alloc_new wm _)) (by simp [Value.oneCell'])) (by unfold maxLen; omega) (by omega) (by simp; omega) ?_; intro v' w3 ho3 hg3 hat3)
                        all_goals
                          (go_roundg (G - 1)
                           case measure => omega
                           case rel =>
                             refine ⟨r.drop M, _, L - (M + 1), _, dn ++ [⟨FR, TW, I1 - I0, TC, addRun rs 32 (segI s1 z1 cz.i1 I1)⟩], false, cz.i1, cz.j1, by omega, ?_, ?_, rfl, ⟨?_, ?_, ?_, ?_, ?_, ?_⟩, ?_⟩
                             · omega
                             · omega
                             · rw [HR.out.1, List.length_drop, List.length_cons]; omega
                             · exact HR.out.2.1.drop (M + 1) _ (fun h => by first | rfl | (exfalso; rw [← HR.out.1] at h; omega))
                             · exact HR.out.2.2.1.drop M cz HCZ.out
                             · have hgm := HR.out.2.2.2.1
                               rw [show G = (G - 1) + 1 from by omega, groupM_step s1 z1 s2 z2 _ (G - 1) M c0 cz r rs I0 I1 TC FR TW cz.i1 HM.out HCZ.out HI0.out HI1'.out HTC.out HFR.out HTW.out HF.out] at hgm
                               simpa using hgm
                             · simp only [List.length_append, List.length_cons, List.length_nil]; omega
                             · exact hunks_push HL2.out HOW.out HRR.out (owns_base HRm.out (by omega)) ((World.grownBy_alloc wm _ _).trans hg3) ho3
                             · exact (((HWf.out.trans (HBm.out.mono hwg)).alloc (by omega) _).grown hg3 (by simp; omega) (fun k hk => (World.ownsRow.lt HOW.out k hk).1)))
    · --[[Z
      obtain ⟨v7, hv7⟩ : ∃ v7, v7 = u7 := ⟨_, rfl⟩
      go_wp2
      go_ret
      have hcl : cl = [] := List.eq_nil_of_length_eq_zero (by have := HR.out.1; omega)
      have hgm := HR.out.2.2.2.1
      have hH := HR.out.2.2.2.2.2
      rw [hcl] at hgm
      have hnil : groupM s1 z1 s2 z2 ((n1 : Int) - 1) G [] = [] := by cases G <;> rfl
      rw [hnil, List.append_nil] at hgm
      rw [hgm] at hH
      exact ⟨_, rfl, hH, HW0.out.trans (HB.out.mono (by omega))⟩
end Go.Proofs.Qxb6602907a
