import Derived.Test.Qxb6601018aW6
namespace Go.Proofs.Qxb6601018a
open Go.RowKit
set_option linter.unusedVariables false

theorem PRow.blk {w W : World} {B g : Nat} {ps : List Pl} (h : PRow w B g ps) (e : W.heap[g]? = w.heap[g]?) : PRow W B g ps := by
  refine ⟨h.1, ?_⟩
  rcases h.2 with hn | ⟨g', cap, cur, he, hbg, hgg, rest⟩
  · exact .inl hn
  · have : g' = g := by simp at he; exact he.1.symm
    subst this
    exact .inr ⟨g', cap, cur, he, hbg, by rw [e]; exact hgg, rest⟩
theorem Rest.put {B bx g S puts n n' nx : Nat} {ov : Value} {w W : World} (h : Rest B bx g S 0 puts n nx ov w) (hn : n' ≤ n + 1) (hk : ∀ k, k ≠ bx → k ≠ g → W.heap[k]? = w.heap[k]?) : Rest B bx g S 1 (puts + 1) n' nx ov W := by
  rcases h with h | ⟨go, O, eo, P, os, h, o⟩
  · exact .inl h
  · exact .inr ⟨go, O, eo, P, os, h, o.row.blk (hk go (Ne.symm o.ne1) (Ne.symm o.ne2)), o.len, o.wf, o.free, o.pw, o.be, o.half, o.ne1, o.ne2, o.lo, o.hi, by have := o.tt; omega, by have := o.pt; omega⟩

theorem St.drewN {B bx g S : Nat} {ps : List Pl} {n : Nat} {ov : Value} {nx : Nat} {w : World} (h : St B bx g S ps n ov nx w) (q : Nat) : St B bx g S ps n ov nx (w.drewN q) := ⟨h.ix.blk rfl, h.rp, h.lp, h.oc, h.wp⟩
theorem Old.drewN {B bx g S lim puts n nx go O eo P : Nat} {os : List Pl} {w : World} (h : Old B bx g S lim puts n nx go O eo P os w) (q : Nat) : Old B bx g S lim puts n nx go O eo P os (w.drewN q) := ⟨h.row, h.len, h.wf, h.free, h.pw, h.be, h.half, h.ne1, h.ne2, h.lo, h.hi, h.tt, h.pt⟩

/-- What a put leaves. -/
def PutR (B bx puts S : Nat) (old : Bool) (w w' : World) : Prop := Below B w w' ∧ ∃ S' old', State B bx (puts + 1) S' old' w' ∧ (S' = S ∨ (S' = 2 * S ∧ old = false))

set_option maxHeartbeats 4000000 in
theorem put43 (B bx puts S : Nat) (old : Bool) (h loc : Nat) (w : World) (hS : State B bx puts S old w) (hB : B ≤ bx) (hh : h < 18446744073709551616) (hloc : loc < 18446744073709551614) (hpu : puts < 4096) :
    Calls Try.prog 43 #[.pointer (some ⟨bx, 0, none⟩), .int .u64 h, .int .u64 loc] w fun e w' => e = .returned (.tuple #[]) ∧ PutR B bx puts S old w w' := by
  obtain ⟨e, g, ps, n, nx, ov, hE, he, h1, st, hn, hnp, hold⟩ := hS
  have hrest : Rest B bx g S 0 puts n nx ov w := by
    rcases hold with ⟨_, h2⟩ | ⟨_, h2⟩
    · exact .inl h2
    · exact .inr h2
  have HOld : Hid (ov = .slice none 0 0 → old = false) := by
    rcases hold with ⟨h2, _⟩ | ⟨_, go, O, eo, P, os, h2, _⟩
    · exact fun _ => h2
    · intro h3
      rw [h2] at h3
      cases h3
  have hrel := relU B bx g S 0 puts ps n nx ov h w hh st.ix st.rp hrest hB
  have HE : Hid (S = 2 ^ e) := hE
  have HL : Hid (ps.length = S) := st.lp
  have HOC : Hid (occ ps = n) := st.oc
  have HW : Hid (Wf ps) := st.wp
  clear hE hold hrest
  have hS8 : 8 ≤ S := by rw [HE.out]; exact Nat.pow_le_pow_right (n := 2) (by decide) he.1
  have hSb : S ≤ 8192 := by rw [HE.out]; exact Nat.pow_le_pow_right (n := 2) (by decide) he.2
  have hwm : IntKind.u64.wrap ((S : Int) - 1) = (S : Int) - 1 := wrap_u (by omega)
  have hwl : IntKind.u64.wrap ((loc : Int) + 1) = (loc : Int) + 1 := wrap_u (by omega)
  have HAnd : Hid (∀ a : Nat, a < 18446744073709551616 → bits .and .u64 (a : Int) ((S : Int) - 1) = ((a % S : Nat) : Int)) := fun a ha => by rw [HE.out]; exact and_mask a e ha (by omega)
  obtain ⟨fz, hfz⟩ : ∃ fz : Nat, ∃ p : Pl, ps[fz]? = some p ∧ p.2 = 0 := free_exists (by rw [HOC.out, HL.out]; omega)
  have hfS : fz < S := by
    obtain ⟨p, hp, _⟩ := hfz
    rw [← HL.out]; exact at_lt hp
  have HFz : Hid (∃ p : Pl, ps[fz]? = some p ∧ p.2 = 0) := hfz
  clear hfz st
  obtain ⟨i0, hi0⟩ : ∃ i0, i0 = h % S := ⟨_, rfl⟩
  have hi0S : i0 < S := by rw [hi0]; exact Nat.mod_lt _ (by omega)
  have ha0 : bits .and .u64 (h : Int) ((S : Int) - 1) = (i0 : Int) := by rw [HAnd.out h hh, hi0]
  clear hi0
  go_enter Try.func43, Try.ntmps43
  go_wp2_with fail
  refine hrel.mono ?_
  rintro e1 w1 ⟨rfl, hix1, hr1, hrest1, hb1⟩
  have HIX : Hid (Ix w1 bx (.slice (some ⟨g, 0, none⟩) S S) n ov nx) := hix1
  have HR : Hid (PRow w1 B g ps) := hr1
  have HRest : Hid (Rest B bx g S 0 puts n nx ov w1) := hrest1
  have HB1 : Hid (Below B w w1) := hb1
  obtain ⟨c0, c1, c2, c3, f0, f1, f2, f3⟩ := hix1
  clear hr1 hrest1 hb1 hrel
  go_wp2
  go_loopw [7] (fun v wi => ∃ (i : Nat), i < S ∧ v = .int .u64 i ∧ Hid (wi = w1)) (fun v _ => dist S fz (intOf v).toNat)
  case atStart => exact ⟨i0, hi0S, rfl, rfl⟩
  case round =>
    obtain ⟨i, hi, rfl, HWi⟩ := hrel
    obtain rfl := HWi.out
    obtain ⟨⟨ah, al⟩, hap⟩ : ∃ p, ps[i]? = some p := ⟨ps[i]'(by rw [HL.out]; exact hi), by simp⟩
    obtain ⟨t1, t2⟩ := HR.out.cells hap
    simp only at t1 t2
    have HAp : Hid (ps[i]? = some (ah, al)) := hap
    have iS : (i : Int) < S := by omega
    clear hap
    have z1 := HR.out.frozen (i * 2)
    have z2 := HR.out.frozen (i * 2 + 1)
    by_cases ha : al = 0
    · subst ha
      go_wp2_with fail
      obtain ⟨W, hW⟩ : ∃ W, W = ((wr.setCell ⟨bx, 1, none⟩ (.int .i64 ((n : Int) + 1))).setCell ⟨g, i * 2, none⟩ (.int .u64 (h : Int))).setCell ⟨g, i * 2 + 1, none⟩ (.int .u64 ((loc : Int) + 1)) := ⟨_, rfl⟩
      have hst : St B bx g S (ps.set i ((h : Int), (loc : Int) + 1)) (n + 1) ov nx W := by
        rw [hW]
        exact ⟨((HIX.out.n_ ((n : Int) + 1)).other (b := g) (j := i * 2) _ h1.symm).other (b := g) (j := i * 2 + 1) _ h1.symm, (HR.out.other (b := bx) (j := 1) _ h1).putp i ((h : Int), (loc : Int) + 1), by rw [List.length_set]; exact HL.out, by rw [occ_new HAp.out rfl (by simp; omega), HOC.out], HW.out.set i ⟨⟨by simp, by simp; omega⟩, by simp; omega, by simp; omega⟩⟩
      have hre : Rest B bx g S 1 (puts + 1) (n + 1) nx ov W := HRest.out.put (by omega) (fun k hkb hkg => by rw [hW]; rw [Below.heap_setCell _ ⟨g, i * 2 + 1, none⟩ _ k hkg, Below.heap_setCell _ ⟨g, i * 2, none⟩ _ k hkg, Below.heap_setCell _ ⟨bx, 1, none⟩ _ k hkb])
      have HBW : Hid (Below B w W) := by rw [hW]; exact ((HB1.out.setCell (p := ⟨bx, 1, none⟩) hB _).setCell (p := ⟨g, i * 2, none⟩) HR.out.lt.1 _).setCell (p := ⟨g, i * 2 + 1, none⟩) HR.out.lt.1 _
      have hstep := stepU B bx g S (puts + 1) e _ (n + 1) nx ov W hst hre hB h1 HE he (by omega) (by omega)
      rw [← hW]
      clear hW hst hre c0 c1 c2 c3 f0 f1 f2 f3 t1 t2 z1 z2
      refine hstep.mono ?_
      rintro e2 w2 ⟨rfl, hbel, ps3, n3, nx3, ov3, st3, hn3, hend⟩
      have HB2 : Hid (Below B w w2) := HBW.out.trans hbel
      have HST : Hid (St B bx g S ps3 n3 ov3 nx3 w2) := st3
      obtain ⟨d0, d1, d2, d3, k0, k1, k2, k3⟩ := st3.ix
      clear st3 hbel hstep
      rcases hend with ⟨rfl, hcase⟩ | ⟨hn3', go, O, eo, P, os, rfl, o⟩
      · by_cases hbig : n3 ≤ S / 4 * 3
        · have hq1 : ¬ (S : Int) / 4 * 3 < (n3 : Int) := by omega
          have hq2 : decide ((S : Int) / 4 * 3 < (n3 : Int)) = false := by simpa using hq1
          go_wp2
          go_quiet (fail)
          go_wp2
          (try simp only [Exit.inBlock, Exit.then])
          refine bodyPost_end (results_none rfl _ _ _) rfl ?_
          exact ⟨rfl, below_drewN HB2.out nq, S, false, ⟨e, g, ps3, n3, nx3, _, HE.out, he, h1, HST.out.drewN nq, hbig, hn3, .inl ⟨rfl, rfl⟩⟩, .inl rfl⟩
        · have hq1 : (S : Int) / 4 * 3 < (n3 : Int) := by omega
          have hq2 : decide ((S : Int) / 4 * 3 < (n3 : Int)) = true := by simpa using hq1
          have hov : ov = .slice none 0 0 ∧ n3 = S / 4 * 3 + 1 := hcase.resolve_left hbig
          have HOv : Hid (old = false) := HOld.out hov.1
          have hn33 := hov.2
          clear hov hcase
          go_wp2
          go_quiet (fail)
          go_wp2_with fail
          refine (resize50 B bx g S e ps3 n3 nx3 (w2.drewN nq) (HST.out.ix.blk rfl) HST.out.rp HST.out.lp HST.out.oc HST.out.wp HE he hB h1).mono ?_
          rintro e3 w3 ⟨rfl, g2, hg2, hg3, hres⟩
          have HRes : Hid (PutR B bx puts S old w w3) := by
            obtain ⟨old', hst'⟩ := resized hres hg2 hg3 h1 HE.out he hn33 hn3 (by omega) HST.out.oc HST.out.lp
            obtain ⟨_, _, _, _, _, _, _, hbel, _⟩ := hres
            exact ⟨(below_drewN HB2.out nq).trans hbel, 2 * S, old', hst', .inr ⟨rfl, HOv.out⟩⟩
          clear hres
          go_wp2
          (try simp only [Exit.inBlock, Exit.then])
          refine bodyPost_end (results_none rfl _ _ _) rfl ?_
          exact ⟨rfl, HRes.out⟩
      · have HO : Hid (Old B bx g S 0 (puts + 1) n3 nx3 go O eo P os w2) := o
        clear o
        go_wp2
        go_quiet (fail)
        go_wp2
        (try simp only [Exit.inBlock, Exit.then])
        refine bodyPost_end (results_none rfl _ _ _) rfl ?_
        exact ⟨rfl, below_drewN HB2.out nq, S, true, ⟨e, g, ps3, n3, nx3, _, HE.out, he, h1, HST.out.drewN nq, hn3', hn3, .inr ⟨rfl, go, O, eo, P, os, rfl, HO.out.drewN nq⟩⟩, .inl rfl⟩
    · have ha' : (al != 0) = true := by simpa using ha
      have ha2 : (al == 0) = false := by simpa using ha
      by_cases hm : ah = (h : Int)
      · subst hm
        go_wp2_with fail
        obtain ⟨W, hW⟩ : ∃ W, W = (wr.setCell ⟨g, i * 2, none⟩ (.int .u64 (h : Int))).setCell ⟨g, i * 2 + 1, none⟩ (.int .u64 ((loc : Int) + 1)) := ⟨_, rfl⟩
        have hst : St B bx g S (ps.set i ((h : Int), (loc : Int) + 1)) n ov nx W := by
          rw [hW]
          exact ⟨(HIX.out.other (b := g) (j := i * 2) _ h1.symm).other (b := g) (j := i * 2 + 1) _ h1.symm, HR.out.putp i ((h : Int), (loc : Int) + 1), by rw [List.length_set]; exact HL.out, by rw [occ_same HAp.out ha (by simp; omega), HOC.out], HW.out.set i ⟨⟨by simp, by simp; omega⟩, by simp; omega, by simp; omega⟩⟩
        have hre : Rest B bx g S 1 (puts + 1) n nx ov W := HRest.out.put (by omega) (fun k hkb hkg => by rw [hW]; rw [Below.heap_setCell _ ⟨g, i * 2 + 1, none⟩ _ k hkg, Below.heap_setCell _ ⟨g, i * 2, none⟩ _ k hkg])
        have HBW : Hid (Below B w W) := by rw [hW]; exact (HB1.out.setCell (p := ⟨g, i * 2, none⟩) HR.out.lt.1 _).setCell (p := ⟨g, i * 2 + 1, none⟩) HR.out.lt.1 _
        have hstep := stepU B bx g S (puts + 1) e _ n nx ov W hst hre hB h1 HE he (by omega) (by omega)
        rw [← hW]
        clear hW hst hre c0 c1 c2 c3 f0 f1 f2 f3 t1 t2 z1 z2
        refine hstep.mono ?_
        rintro e2 w2 ⟨rfl, hbel, ps3, n3, nx3, ov3, st3, hn3, hend⟩
        have HB2 : Hid (Below B w w2) := HBW.out.trans hbel
        have HST : Hid (St B bx g S ps3 n3 ov3 nx3 w2) := st3
        obtain ⟨d0, d1, d2, d3, k0, k1, k2, k3⟩ := st3.ix
        clear st3 hbel hstep
        rcases hend with ⟨rfl, hcase⟩ | ⟨hn3', go, O, eo, P, os, rfl, o⟩
        · by_cases hbig : n3 ≤ S / 4 * 3
          · have hq1 : ¬ (S : Int) / 4 * 3 < (n3 : Int) := by omega
            have hq2 : decide ((S : Int) / 4 * 3 < (n3 : Int)) = false := by simpa using hq1
            go_wp2
            go_quiet (fail)
            go_wp2
            (try simp only [Exit.inBlock, Exit.then])
            refine bodyPost_end (results_none rfl _ _ _) rfl ?_
            exact ⟨rfl, below_drewN HB2.out nq, S, false, ⟨e, g, ps3, n3, nx3, _, HE.out, he, h1, HST.out.drewN nq, hbig, hn3, .inl ⟨rfl, rfl⟩⟩, .inl rfl⟩
          · have hq1 : (S : Int) / 4 * 3 < (n3 : Int) := by omega
            have hq2 : decide ((S : Int) / 4 * 3 < (n3 : Int)) = true := by simpa using hq1
            have hov : ov = .slice none 0 0 ∧ n3 = S / 4 * 3 + 1 := hcase.resolve_left hbig
            have HOv : Hid (old = false) := HOld.out hov.1
            have hn33 := hov.2
            clear hov hcase
            go_wp2
            go_quiet (fail)
            go_wp2_with fail
            refine (resize50 B bx g S e ps3 n3 nx3 (w2.drewN nq) (HST.out.ix.blk rfl) HST.out.rp HST.out.lp HST.out.oc HST.out.wp HE he hB h1).mono ?_
            rintro e3 w3 ⟨rfl, g2, hg2, hg3, hres⟩
            have HRes : Hid (PutR B bx puts S old w w3) := by
              obtain ⟨old', hst'⟩ := resized hres hg2 hg3 h1 HE.out he hn33 hn3 (by omega) HST.out.oc HST.out.lp
              obtain ⟨_, _, _, _, _, _, _, hbel, _⟩ := hres
              exact ⟨(below_drewN HB2.out nq).trans hbel, 2 * S, old', hst', .inr ⟨rfl, HOv.out⟩⟩
            clear hres
            go_wp2
            (try simp only [Exit.inBlock, Exit.then])
            refine bodyPost_end (results_none rfl _ _ _) rfl ?_
            exact ⟨rfl, HRes.out⟩
        · have HO : Hid (Old B bx g S 0 (puts + 1) n3 nx3 go O eo P os w2) := o
          clear o
          go_wp2
          go_quiet (fail)
          go_wp2
          (try simp only [Exit.inBlock, Exit.then])
          refine bodyPost_end (results_none rfl _ _ _) rfl ?_
          exact ⟨rfl, below_drewN HB2.out nq, S, true, ⟨e, g, ps3, n3, nx3, _, HE.out, he, h1, HST.out.drewN nq, hn3', hn3, .inr ⟨rfl, go, O, eo, P, os, rfl, HO.out.drewN nq⟩⟩, .inl rfl⟩
      · have hm' : (ah != (h : Int)) = true := by simpa using hm
        have hnx' : (i + 1) % S < S := Nat.mod_lt _ (by omega)
        have ha1 : bits .and .u64 ((i : Int) + 1) ((S : Int) - 1) = (((i + 1) % S : Nat) : Int) := by have := HAnd.out (i + 1) (by omega); simpa using this
        have HNe : Hid (i ≠ fz) := fun e => by
          subst e
          obtain ⟨p, hp, h0⟩ := HFz.out
          rw [HAp.out] at hp
          cases hp
          exact ha h0
        go_wp2
        go_roundw
        case rel => exact ⟨(i + 1) % S, hnx', rfl, trivial⟩
        case measure => go_light; simp only [intOf, Int.toNat_natCast]; exact dist_step hfS hi HNe.out
end Go.Proofs.Qxb6601018a
