import Derived.Test.Qxb6601018aW9
namespace Go.Proofs.Qxb6601018a
open Go.RowKit
set_option linter.unusedVariables false

theorem State.drew {B bx puts S : Nat} {old : Bool} {w : World} (h : State B bx puts S old w) : State B bx puts S old w.drew := by
  obtain ⟨e, g, ps, n, nx, ov, h1, h2, h3, h4, h5, h6, h7⟩ := h
  refine ⟨e, g, ps, n, nx, ov, h1, h2, h3, ⟨h4.ix.drew, h4.rp.drew, h4.lp, h4.oc, h4.wp⟩, h5, h6, ?_⟩
  rcases h7 with h7 | ⟨h7, go, O, eo, P, os, h8, o⟩
  · exact .inl h7
  · exact .inr ⟨h7, go, O, eo, P, os, h8, o.row.drew, o.len, o.wf, o.free, o.pw, o.be, o.half, o.ne1, o.ne2, o.lo, o.hi, o.tt, o.pt⟩

set_option maxHeartbeats 4000000 in
set_option maxRecDepth 8000 in
theorem law6 (a0 : Option Addr) (N0 c0 : Nat) (z0 : List Nat) (a1 : Option Addr) (N1 c1 : Nat) (z1 : List Nat) (w : World) (hm0 : N0 ≤ maxLen) (hm1 : N1 ≤ maxLen) (hu0 : USl w a0 N0 z0) (hu1 : USl w a1 N1 z1) :
    Calls Try.prog 6 #[.slice a0 N0 c0, .slice a1 N1 c1] w fun e w' => e = .returned (.bool true) ∧ Below w.heap.size w w' := by
  have HU0 : Hid (USl w a0 N0 z0) := hu0
  have HU1 : Hid (USl w a1 N1 z1) := hu1
  clear hu0 hu1
  have hn' := hm0
  have hs' := hm1
  unfold maxLen at hn' hs'
  go_enter Try.func6, Try.ntmps6
  go_wp2_with fail
  refine (bytes34 a0 a1 N0 c0 N1 c1 w hm0 hm1).mono ?_
  rintro e w' ⟨he, hw⟩
  rw [hw]
  clear hw
  rcases he with rfl | rfl
  rotate_left
  · go_wp2
    go_ret
    exact ⟨rfl, Below.refl _ _⟩
  rcases Nat.lt_or_ge 4096 N0 with hb1 | hb1
  · have i1 : (4096 : Int) < N0 := by omega
    go_wp2
    go_ret
    exact ⟨rfl, Below.refl _ _⟩
  rcases Nat.lt_or_ge 4096 N1 with hb2 | hb2
  · have i1 : ¬ (4096 : Int) < N0 := by omega
    have i2 : (4096 : Int) < N1 := by omega
    go_wp2
    go_ret
    exact ⟨rfl, Below.refl _ _⟩
  have i1 : ¬ (4096 : Int) < N0 := by omega
  have i2 : ¬ (4096 : Int) < N1 := by omega
  have i3 : ¬ (1048576 : Int) < 8 * (N0 : Int) + 8 * (N1 : Int) := by omega
  go_wp2_with fail
  refine (pairs10 a0 a1 N0 c0 N1 c1 w hb1 hb2).mono ?_
  rintro e wq ⟨⟨K, hK0, hK1, rfl⟩, hw⟩
  rw [hw]
  clear hw wq
  go_wp2_with fail
  refine (fit26 a1 N1 c1 K z1 w HU1.out hb2 hK1).mono ?_
  rintro e wq ⟨he, hw⟩
  rw [hw]
  clear hw wq
  rcases he with rfl | ⟨rfl, HFit⟩
  · go_wp2
    go_ret
    exact ⟨rfl, Below.refl _ _⟩
  go_wp2_with fail
  refine (clone12 a0 N0 c0 z0 w HU0.out hb1).mono ?_
  rintro e w1 ⟨b0, d0, rfl, hv0, _, hB1⟩
  have HV0 : Hid (USl w1 b0 N0 z0) := hv0
  have HB1 : Hid (Below w.heap.size w w1) := hB1
  have hz1 := hB1.size
  clear hv0 hB1
  go_wp2_with fail
  refine (clone12 a1 N1 c1 z1 w1 (HU1.out.later HB1.out) hb2).mono ?_
  rintro e w2 ⟨b1, d1, rfl, hv1, _, hB2⟩
  have HV1 : Hid (USl w2 b1 N1 z1) := hv1
  have HV02 : Hid (USl w2 b0 N0 z0) := HV0.out.later hB2
  have HB2 : Hid (Below w.heap.size w w2) := HB1.out.trans (hB2.mono hz1)
  have hz2 := HB2.out.size
  clear hv1 hB2
  go_wp2_with fail
  refine (new14 w2).mono ?_
  rintro e w3 ⟨bx, rfl, hbx, hst, hB3⟩
  obtain ⟨B, hBq⟩ : ∃ B, B = w2.heap.size := ⟨_, rfl⟩
  rw [← hBq] at hst hbx hB3 hz2
  have HBE : Hid (B = w2.heap.size) := hBq
  have HST : Hid (State B bx 0 8 false w3) := hst
  have HB3 : Hid (Below B w2 w3) := hB3
  clear hst hB3 hBq
  go_wp2
  go_loopw [7, 8, 9] (fun v o i wr => ∃ (k S : Nat) (old : Bool), k ≤ K ∧ v = .int .i64 S ∧ o = .bool old ∧ i = .int .i64 k ∧ Hid (State B bx k S old wr) ∧ Hid (Below B w2 wr)) (fun v o i _ => K - (intOf i).toNat)
  case atStart => exact ⟨0, 8, false, by omega, rfl, rfl, rfl, HST, HB3⟩
  case round =>
    obtain ⟨k, S, old, hk, rfl, rfl, rfl, HS, HB⟩ := hrel
    by_cases hlt : k < K
    · have k1 : (k : Int) < K := by omega
      have k2 : (k : Int) < N0 := by omega
      have k3 : (k : Int) < N1 := by omega
      have hb2r : Below w2.heap.size w2 wr := by have := HB.out; rw [HBE.out] at this; exact this
      obtain ⟨h, hh⟩ : ∃ z, z0[k]? = some z := ⟨z0[k]'(by rw [HV02.out.len]; omega), by simp⟩
      obtain ⟨l, hl⟩ : ∃ z, z1[k]? = some z := ⟨z1[k]'(by rw [HV1.out.len]; omega), by simp⟩
      obtain ⟨g0, o0, rfl, q0'⟩ := HV02.out.at_ k h hh
      obtain ⟨g1, o1, rfl, q1'⟩ := HV1.out.at_ k l hl
      have y0 : g0 < w2.heap.size := World.block_lt_of_cell? w2 _ q0'
      have y1 : g1 < w2.heap.size := World.block_lt_of_cell? w2 _ q1'
      have q0 : wr.cell? ⟨g0, o0 + k, none⟩ = some (.int .u64 (h : Int)) := (World.cell?_of_block (a := ⟨g0, o0 + k, none⟩) (hb2r.block g0 y0)).trans q0'
      have q1 : wr.cell? ⟨g1, o1 + k, none⟩ = some (.int .u64 (l : Int)) := (World.cell?_of_block (a := ⟨g1, o1 + k, none⟩) (hb2r.block g1 y1)).trans q1'
      rw [← HBE.out] at y0 y1
      have hr0 := HV02.out.rng h (List.mem_of_getElem? hh)
      have hr1 := HFit.out k l hlt hl
      have hput : Calls Try.prog 17 #[.pointer (some ⟨bx, 0, none⟩), .int .u64 h, .int .u64 l] wr.drew fun e w' => e = .returned (.tuple #[]) ∧ (w'.cell? ⟨g0, o0 + k, none⟩ = some (.int .u64 (h : Int)) ∧ w'.cell? ⟨g1, o1 + k, none⟩ = some (.int .u64 (l : Int))) ∧ PutR B bx k S old wr.drew w' := by
        refine (put17 B bx k S old h l wr.drew HS.out.drew hbx hr0 hr1 (by omega)).mono ?_
        rintro e w' ⟨he, hr⟩
        exact ⟨he, ⟨(World.cell?_of_block (a := ⟨g0, o0 + k, none⟩) (hr.1.block g0 y0)).trans q0, (World.cell?_of_block (a := ⟨g1, o1 + k, none⟩) (hr.1.block g1 y1)).trans q1⟩, hr⟩
      clear hr0 hr1 hh hl hb2r q0' q1'
      go_wp2
      go_region_held3 (fun w' => w'.cell? ⟨g0, o0 + k, none⟩ = some (.int .u64 (h : Int)) ∧ w'.cell? ⟨g1, o1 + k, none⟩ = some (.int .u64 (l : Int))) (simp [go_sem, *]) (first | (go_at_call 17; refine hput.mono ?_; rintro e w4 ⟨rfl, ⟨p0, p1⟩, hr4⟩))
      all_goals
        obtain ⟨hB4, S', old', hst4, hsz⟩ := hr4
        have HB4 : Hid (Below B w2 w4) := HB.out.drew.trans hB4
        have HS4 : Hid (State B bx (k + 1) S' old' w4) := hst4
        obtain ⟨e, g, ps, n, nx, ov, hE, he, hbg, st, hn, _, hcase⟩ := hst4
        have HIX : Hid (Ix w4 bx (.slice (some ⟨g, 0, none⟩) S' S') n ov nx) := st.ix
        have hS8 : 8 ≤ S' := by rw [hE]; exact Nat.pow_le_pow_right (n := 2) (by decide) he.1
        have hSb : S' ≤ 8192 := by rw [hE]; exact Nat.pow_le_pow_right (n := 2) (by decide) he.2
        have hand : bits .and .i64 (S' : Int) ((S' : Int) - 1) = 0 := by rw [hE]; exact and_self e (by omega)
        clear hE he st hput hB4 q0 q1 p0 p1
        have j1 : ¬ (S' : Int) < 8 := by omega
        have j2 : ¬ (S' : Int) / 4 * 3 < (n : Int) := by omega
        have j3 : decide ((S' : Int) / 4 * 3 < (n : Int)) = false := by simpa using j2
        rcases hsz with hq | ⟨hq, hof⟩
        · have l1 : ((S' : Int) != (S : Int)) = false := by simp; omega
          clear hq
          rcases hcase with ⟨ho, hov⟩ | ⟨ho, go, O, eo, P, os, hov, o⟩
          · subst ho hov
            go_wp2_with fail
            refine (len19 bx _ S' S' n nx _ w4 HIX.out).mono ?_
            rintro e w5 ⟨rfl, hw⟩
            rw [hw]
            clear hw w5
            go_wp2_with fail
            refine (n31 bx _ n nx _ w4 HIX.out).mono ?_
            rintro e w5 ⟨rfl, hw⟩
            rw [hw]
            clear hw w5
            go_wp2_with fail
            refine (hasold18 bx _ n nx _ _ _ w4 HIX.out).mono ?_
            rintro e w5 ⟨rfl, hw⟩
            rw [hw]
            clear hw w5
            go_wp2_with fail
            refine (hasold18 bx _ n nx _ _ _ w4 HIX.out).mono ?_
            rintro e w5 ⟨rfl, hw⟩
            rw [hw]
            clear hw w5
            go_wp2
            go_roundw
            case rel => exact ⟨k + 1, S', _, by omega, rfl, rfl, by go_num, HS4, HB4⟩
            case measure => go_light; simp only [intOf]; omega
          · subst ho hov
            have m1 : (2 * (O : Int) != (S' : Int)) = false := by have := o.half; simp; omega
            have m2 : ¬ (nx : Int) < 0 := by omega
            have m3 : ¬ (O : Int) ≤ (nx : Int) := by have := o.hi; omega
            have m4 : O ≤ 8192 := by have := o.half; omega
            clear o
            go_wp2_with fail
            refine (len19 bx _ S' S' n nx _ w4 HIX.out).mono ?_
            rintro e w5 ⟨rfl, hw⟩
            rw [hw]
            clear hw w5
            go_wp2_with fail
            refine (n31 bx _ n nx _ w4 HIX.out).mono ?_
            rintro e w5 ⟨rfl, hw⟩
            rw [hw]
            clear hw w5
            go_wp2_with fail
            refine (hasold18 bx _ n nx _ _ _ w4 HIX.out).mono ?_
            rintro e w5 ⟨rfl, hw⟩
            rw [hw]
            clear hw w5
            go_wp2_with fail
            refine (oldlen35 bx _ n nx _ _ _ w4 HIX.out).mono ?_
            rintro e w5 ⟨rfl, hw⟩
            rw [hw]
            clear hw w5
            go_wp2_with fail
            refine (next36 bx _ n nx _ w4 HIX.out).mono ?_
            rintro e w5 ⟨rfl, hw⟩
            rw [hw]
            clear hw w5
            go_wp2_with fail
            refine (next36 bx _ n nx _ w4 HIX.out).mono ?_
            rintro e w5 ⟨rfl, hw⟩
            rw [hw]
            clear hw w5
            go_wp2_with fail
            refine (oldlen35 bx _ n nx _ _ _ w4 HIX.out).mono ?_
            rintro e w5 ⟨rfl, hw⟩
            rw [hw]
            clear hw w5
            go_wp2_with fail
            refine (hasold18 bx _ n nx _ _ _ w4 HIX.out).mono ?_
            rintro e w5 ⟨rfl, hw⟩
            rw [hw]
            clear hw w5
            go_wp2
            go_roundw
            case rel => exact ⟨k + 1, S', _, by omega, rfl, rfl, by go_num, HS4, HB4⟩
            case measure => go_light; simp only [intOf]; omega
        · subst hof
          have l1 : ((S' : Int) != (S : Int)) = true := by simp; omega
          have l2 : ((S' : Int) != 2 * (S : Int)) = false := by simp; omega
          have l3 : S ≤ 8192 := by omega
          clear hq
          rcases hcase with ⟨ho, hov⟩ | ⟨ho, go, O, eo, P, os, hov, o⟩
          · subst ho hov
            go_wp2_with fail
            refine (len19 bx _ S' S' n nx _ w4 HIX.out).mono ?_
            rintro e w5 ⟨rfl, hw⟩
            rw [hw]
            clear hw w5
            go_wp2_with fail
            refine (n31 bx _ n nx _ w4 HIX.out).mono ?_
            rintro e w5 ⟨rfl, hw⟩
            rw [hw]
            clear hw w5
            go_wp2_with fail
            refine (hasold18 bx _ n nx _ _ _ w4 HIX.out).mono ?_
            rintro e w5 ⟨rfl, hw⟩
            rw [hw]
            clear hw w5
            go_wp2_with fail
            refine (hasold18 bx _ n nx _ _ _ w4 HIX.out).mono ?_
            rintro e w5 ⟨rfl, hw⟩
            rw [hw]
            clear hw w5
            go_wp2
            go_roundw
            case rel => exact ⟨k + 1, S', _, by omega, rfl, rfl, by go_num, HS4, HB4⟩
            case measure => go_light; simp only [intOf]; omega
          · subst ho hov
            have m1 : (2 * (O : Int) != (S' : Int)) = false := by have := o.half; simp; omega
            have m2 : ¬ (nx : Int) < 0 := by omega
            have m3 : ¬ (O : Int) ≤ (nx : Int) := by have := o.hi; omega
            have m4 : O ≤ 8192 := by have := o.half; omega
            clear o
            go_wp2_with fail
            refine (len19 bx _ S' S' n nx _ w4 HIX.out).mono ?_
            rintro e w5 ⟨rfl, hw⟩
            rw [hw]
            clear hw w5
            go_wp2_with fail
            refine (n31 bx _ n nx _ w4 HIX.out).mono ?_
            rintro e w5 ⟨rfl, hw⟩
            rw [hw]
            clear hw w5
            go_wp2_with fail
            refine (hasold18 bx _ n nx _ _ _ w4 HIX.out).mono ?_
            rintro e w5 ⟨rfl, hw⟩
            rw [hw]
            clear hw w5
            go_wp2_with fail
            refine (oldlen35 bx _ n nx _ _ _ w4 HIX.out).mono ?_
            rintro e w5 ⟨rfl, hw⟩
            rw [hw]
            clear hw w5
            go_wp2_with fail
            refine (next36 bx _ n nx _ w4 HIX.out).mono ?_
            rintro e w5 ⟨rfl, hw⟩
            rw [hw]
            clear hw w5
            go_wp2_with fail
            refine (next36 bx _ n nx _ w4 HIX.out).mono ?_
            rintro e w5 ⟨rfl, hw⟩
            rw [hw]
            clear hw w5
            go_wp2_with fail
            refine (oldlen35 bx _ n nx _ _ _ w4 HIX.out).mono ?_
            rintro e w5 ⟨rfl, hw⟩
            rw [hw]
            clear hw w5
            go_wp2_with fail
            refine (hasold18 bx _ n nx _ _ _ w4 HIX.out).mono ?_
            rintro e w5 ⟨rfl, hw⟩
            rw [hw]
            clear hw w5
            go_wp2
            go_roundw
            case rel => exact ⟨k + 1, S', _, by omega, rfl, rfl, by go_num, HS4, HB4⟩
            case measure => go_light; simp only [intOf]; omega
    · have k1 : ¬ (k : Int) < K := by omega
      go_wp2
      go_ret
      exact ⟨rfl, HB2.out.trans (HB.out.mono hz2)⟩
end Go.Proofs.Qxb6601018a
