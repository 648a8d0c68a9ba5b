import Derived.Test.Qxb6601018aW3
namespace Go.Proofs.Qxb6601018a
open Go.RowKit
set_option linter.unusedVariables false

set_option maxHeartbeats 2000000 in
theorem step_nil (bx : Nat) (pv : Value) (n nx : Int) (w : World) (hix : Ix w bx pv n (.slice none 0 0) nx) :
    Calls Try.prog 48 #[.pointer (some ⟨bx, 0, none⟩)] w fun e w' => e = .returned (.tuple #[]) ∧ w' = w := by
  obtain ⟨c0, c1, c2, c3, f0, f1, f2, f3⟩ := hix
  go_enter Try.func48, Try.ntmps48
  go_wp2
  (try simp only [Exit.inBlock, Exit.then])
  refine bodyPost_ret (results_none rfl _ _ _) rfl ?_
  exact ⟨rfl, rfl⟩

/-- The state of a step under way. -/
structure SRel (B bx g go S O : Nat) (os0 : List Pl) (tot : Nat) (w wr : World) (ps os : List Pl) (n nx : Nat) : Prop where
  ix : Ix wr bx (.slice (some ⟨g, 0, none⟩) S S) n (.slice (some ⟨go, 0, none⟩) O O) nx
  rp : PRow wr B g ps
  ro : PRow wr B go os
  lp : ps.length = S
  lo : os.length = O
  oc : occ ps = n
  tt : n + live os ≤ tot
  wp : Wf ps
  wo : Wf os
  fr : ∀ f : Nat, (∃ p : Pl, os0[f]? = some p ∧ p.2 = 0) → ∃ p : Pl, os[f]? = some p ∧ p.2 = 0
  below : Below B w wr

theorem Ix.drew {w : World} {bx : Nat} {pv : Value} {n : Int} {ov : Value} {nx : Int} (h : Ix w bx pv n ov nx) : Ix w.drew bx pv n ov nx := h.blk rfl
theorem PRow.drew {w : World} {B g : Nat} {ps : List Pl} (h : PRow w B g ps) : PRow w.drew B g ps := World.ownsRow.drew h
theorem SRel.moved {B bx g go S O : Nat} {os0 : List Pl} {tot : Nat} {w wr W : World} {ps os : List Pl} {n nx i : Nat} {ph pl : Int} {q : Pl} (h : SRel B bx g go S O os0 tot w wr ps os n nx)
    (ixW : Ix W bx (.slice (some ⟨g, 0, none⟩) S S) n (.slice (some ⟨go, 0, none⟩) O O) nx) (rpW : PRow W B g ps) (roW : PRow W B go (os.set nx (ph, 18446744073709551615))) (hp : os[nx]? = some (ph, pl)) (hl : pl ≠ 0 ∧ pl ≠ 18446744073709551615) (hbW : Below B w W) (hi : ps[i]? = some q) (hq : q.2 = 0)
    (h1 : bx ≠ g) (h2 : bx ≠ go) (h3 : g ≠ go) (hbx : B ≤ bx) :
    SRel B bx g go S O os0 tot w ((((W.setCell ⟨g, i * 2, none⟩ (.int .u64 ph)).setCell ⟨g, i * 2 + 1, none⟩ (.int .u64 pl)).setCell ⟨bx, 1, none⟩ (.int .i64 ((n : Int) + 1))).setCell ⟨bx, 3, none⟩ (.int .i64 ((nx : Int) + 1))).drew (ps.set i (ph, pl)) (os.set nx (ph, 18446744073709551615)) (n + 1) (nx + 1) := by
  have hpw := h.wo.all _ (List.mem_of_getElem? hp)
  simp only at hpw
  have hlv := live_gone hp hl
  have i1 := ixW.other (b := g) (j := i * 2) (.int .u64 ph) h1.symm
  have i2 := i1.other (b := g) (j := i * 2 + 1) (.int .u64 pl) h1.symm
  have i3 := i2.n_ ((n : Int) + 1)
  have i4 := i3.nx_ ((nx : Int) + 1)
  have r1 := rpW.putp i (ph, pl)
  have r2 := r1.other (b := bx) (j := 1) (.int .i64 ((n : Int) + 1)) h1
  have r3 := r2.other (b := bx) (j := 3) (.int .i64 ((nx : Int) + 1)) h1
  have o1 := roW.other (b := g) (j := i * 2) (.int .u64 ph) h3
  have o2 := o1.other (b := g) (j := i * 2 + 1) (.int .u64 pl) h3
  have o3 := o2.other (b := bx) (j := 1) (.int .i64 ((n : Int) + 1)) h2
  have o4 := o3.other (b := bx) (j := 3) (.int .i64 ((nx : Int) + 1)) h2
  have e1 := hbW.setCell (p := ⟨g, i * 2, none⟩) rpW.lt.1 (.int .u64 ph)
  have e2 := e1.setCell (p := ⟨g, i * 2 + 1, none⟩) rpW.lt.1 (.int .u64 pl)
  have e3 := e2.setCell (p := ⟨bx, 1, none⟩) hbx (.int .i64 ((n : Int) + 1))
  have e4 := e3.setCell (p := ⟨bx, 3, none⟩) hbx (.int .i64 ((nx : Int) + 1))
  exact ⟨i4.drew, r3.drew, o4.drew, by rw [List.length_set]; exact h.lp, by rw [List.length_set]; exact h.lo, by rw [occ_new hi hq hl.1, h.oc], by have := h.tt; simp only at hlv; omega, h.wp.set i ⟨hpw.1, hpw.2⟩, h.wo.set nx ⟨hpw.1, by simp, by simp⟩, fun f hf => free_keep hp hl.1 (h.fr f hf), e4.drew⟩
theorem SRel.drewN {B bx g go S O : Nat} {os0 : List Pl} {tot : Nat} {w wr : World} {ps os : List Pl} {n nx : Nat} (h : SRel B bx g go S O os0 tot w wr ps os n nx) (q : Nat) : SRel B bx g go S O os0 tot w (wr.drewN q) ps os n nx :=
  ⟨h.ix.blk rfl, h.rp, h.ro, h.lp, h.lo, h.oc, h.tt, h.wp, h.wo, h.fr, below_drewN h.below q⟩
/-- A place passed over. -/
theorem SRel.skip {B bx g go S O : Nat} {os0 : List Pl} {tot : Nat} {w wr : World} {ps os : List Pl} {n nx : Nat} (h : SRel B bx g go S O os0 tot w wr ps os n nx) (o : Obj) (h2 : go ≠ bx) (h1 : g ≠ bx) (hbx : B ≤ bx) : SRel B bx g go S O os0 tot w ((wr.setCell ⟨bx, 3, none⟩ (.int .i64 ((nx : Int) + 1))).alloc o).drew ps os n (nx + 1) := by
  have hz : ∀ k, k < wr.heap.size → ((wr.setCell ⟨bx, 3, none⟩ (.int .i64 ((nx : Int) + 1))).alloc o).drew.heap[k]? = (wr.setCell ⟨bx, 3, none⟩ (.int .i64 ((nx : Int) + 1))).heap[k]? := fun k hk => Below.heap_alloc _ o k (by simpa using hk)
  have hB : Below B w (wr.setCell ⟨bx, 3, none⟩ (.int .i64 ((nx : Int) + 1))) := h.below.setCell hbx _
  refine ⟨((h.ix.nx_ ((nx : Int) + 1)).blk (hz bx h.ix.lt)), ?_, ?_, h.lp, h.lo, h.oc, h.tt, h.wp, h.wo, h.fr, (hB.alloc (by have := h.ix.lt; simp; omega) _).drew⟩
  · exact ((h.rp.other (b := bx) (j := 3) _ h1.symm).below ((Below.refl _ _).alloc (Nat.le_refl _) o).drew (by simpa using h.rp.lt.2))
  · exact ((h.ro.other (b := bx) (j := 3) _ h2.symm).below ((Below.refl _ _).alloc (Nat.le_refl _) o).drew (by simpa using h.ro.lt.2))

/-- A step's end: the old table is empty and gone, or at least four places further. -/
def StepR (B bx g go S O : Nat) (os0 : List Pl) (tot nx0 : Nat) (w w' : World) : Prop :=
  ∃ (ps : List Pl) (n : Nat), ps.length = S ∧ occ ps = n ∧ n ≤ tot ∧ Wf ps ∧ PRow w' B g ps ∧ Below B w w' ∧
    (Ix w' bx (.slice (some ⟨g, 0, none⟩) S S) n (.slice none 0 0) O ∨
     ∃ (os : List Pl) (nx : Nat), SRel B bx g go S O os0 tot w w' ps os n nx ∧ nx0 + 4 ≤ nx ∧ nx < O)

set_option maxHeartbeats 16000000 in
set_option maxRecDepth 8000 in
theorem step48 (B bx g go S O e : Nat) (ps0 os0 : List Pl) (tot n0 nx0 : Nat) (w : World) (hR : SRel B bx g go S O os0 tot w w ps0 os0 n0 nx0) (HE : Hid (S = 2 ^ e)) (he : 3 ≤ e ∧ e ≤ 14) (hO : O ≤ 16384) (htot : tot < S) (hnx : nx0 ≤ O) (hbx : B ≤ bx) (h1 : bx ≠ g) (h2 : bx ≠ go) (h3 : g ≠ go) :
    Calls Try.prog 48 #[.pointer (some ⟨bx, 0, none⟩)] w fun e w' => e = .returned (.tuple #[]) ∧ StepR B bx g go S O os0 tot nx0 w w' := by
  have HR : Hid (SRel B bx g go S O os0 tot w w ps0 os0 n0 nx0) := hR
  obtain ⟨c0, c1, c2, c3, f0, f1, f2, f3⟩ := hR.ix
  clear hR
  have hS8 : 8 ≤ S := by rw [HE.out]; exact Nat.pow_le_pow_right (n := 2) (by decide) he.1
  have hSb : S ≤ 16384 := by rw [HE.out]; exact Nat.pow_le_pow_right (n := 2) (by decide) he.2
  have hwm : IntKind.u64.wrap ((S : Int) - 1) = (S : Int) - 1 := wrap_u (by omega)
  have HAnd : Hid (∀ a : Nat, a < 18446744073709551616 → bits .and .u64 (a : Int) ((S : Int) - 1) = ((a % S : Nat) : Int)) := fun a ha => by rw [HE.out]; exact and_mask a e ha he.2
  rcases Nat.lt_or_ge O (nx0 + 32) with hc | hc
  · have hc' : (O : Int) < (nx0 : Int) + 32 := by omega
    go_enter Try.func48, Try.ntmps48
    go_wp2
    go_quiet (fail)
    go_wp2
    go_loopg [2] O (fun gk v wr => ∃ (ps os : List Pl) (n nx mv : Nat), gk + nx = O + nx0 ∧ v = .int .i64 mv ∧ nx0 + mv ≤ nx ∧ nx ≤ O ∧ mv ≤ 4 ∧ Hid (SRel B bx g go S O os0 tot w wr ps os n nx))
    case atStart => exact ⟨ps0, os0, n0, nx0, 0, by omega, rfl, by omega, by omega, by omega, HR.out.drewN nq⟩
    case round =>
      obtain ⟨ps, os, n, nx, mv, hk, rfl, hmv, hnE, hmv4, HS⟩ := hrel
      obtain ⟨G, rfl⟩ : ∃ G, G = gk := ⟨_, rfl⟩
      obtain ⟨d0, d1, d2, d3, k0, k1, k2, k3⟩ := HS.out.ix
      have hxl := HS.out.ix.lt
      have hgl := HS.out.rp.lt.2
      have hol := HS.out.ro.lt.2
      by_cases hlt : nx < O
      · have iE : (nx : Int) < O := by omega
        by_cases hm : mv < 4
        · have im : (mv : Int) < 4 := by omega
          have iO : (nx : Int) < O := by omega
          obtain ⟨⟨ph, pl⟩, hp⟩ : ∃ p, os[nx]? = some p := ⟨os[nx]'(by rw [HS.out.lo]; omega), by simp⟩
          have hpw0 := HS.out.wo.all _ (List.mem_of_getElem? hp)
          simp only at hpw0
          obtain ⟨phn, rfl⟩ : ∃ m : Nat, ph = (m : Int) := ⟨ph.toNat, by omega⟩
          clear hpw0
          obtain ⟨q1, q2⟩ := HS.out.ro.cells hp
          simp only at q1 q2
          have HP : Hid (os[nx]? = some ((phn : Int), pl)) := hp
          have hpw := HS.out.wo.all _ (List.mem_of_getElem? hp)
          simp only at hpw
          have hz := HS.out.ro.frozen (nx * 2 + 1)
          have hn16 : n ≤ 16384 := by have := HS.out.tt; omega
          clear hp
          have hb1 : bx < wr.heap.size + 1 := by omega
          have hb2 : go < wr.heap.size + 1 := by omega
          have hb3 : g < wr.heap.size + 1 := by omega
          have hy1 : bx ≠ wr.heap.size := by omega
          have hy2 : go ≠ wr.heap.size := by omega
          have hy3 : g ≠ wr.heap.size := by omega
          go_wp2
          go_region_held3 (fun w' => w'.cell? ⟨bx, 2, none⟩ = some (.slice (some ⟨go, 0, none⟩) O O) ∧ w'.cell? ⟨bx, 3, none⟩ = some (.int .i64 nx) ∧ w'.cell? ⟨go, nx * 2, none⟩ = some (.int .u64 (phn : Int)) ∧ w'.cell? ⟨go, nx * 2 + 1, none⟩ = some (.int .u64 pl)) (simp [go_sem, World.cell?_alloc_past, *]) (fail)
          all_goals
            by_cases hl0 : pl = 0
            · subst hl0
              go_wp2
              go_roundg (G - 1)
              case measure => omega
              case rel => exact ⟨ps, os, n, nx + 1, mv, by omega, rfl, by omega, by omega, by omega, HS.out.skip _ h2.symm h1.symm hbx⟩
            · have hl0' : (pl == 0) = false := by simpa using hl0
              by_cases hl1 : pl = 18446744073709551615
              · subst hl1
                go_wp2
                go_roundg (G - 1)
                case measure => omega
                case rel => exact ⟨ps, os, n, nx + 1, mv, by omega, rfl, by omega, by omega, by omega, HS.out.skip _ h2.symm h1.symm hbx⟩
              · have hl1' : (pl == 18446744073709551615) = false := by simpa using hl1
                have hgone := HS.out.ro.frozen (nx * 2 + 1)
                go_wp2
                go_region_held3 (fun w' => w'.cell? ⟨bx, 2, none⟩ = some (.slice (some ⟨go, 0, none⟩) O O) ∧ w'.cell? ⟨bx, 3, none⟩ = some (.int .i64 nx)) (simp [go_sem, World.cell?_alloc_past, *]) (fail)
                all_goals
                  obtain ⟨W, hW⟩ : ∃ W, W = ((wr.setCell ⟨go, nx * 2 + 1, none⟩ (.int .u64 18446744073709551615)).alloc (Obj.cells #[Value.int .u64 (phn : Int), Value.int .u64 pl] 59)).drew.drew := ⟨_, rfl⟩
                  have hbA : Below (wr.setCell ⟨go, nx * 2 + 1, none⟩ (.int .u64 18446744073709551615)).heap.size (wr.setCell ⟨go, nx * 2 + 1, none⟩ (.int .u64 18446744073709551615)) W := by rw [hW]; exact ((Below.refl _ _).alloc (Nat.le_refl _) _).drew.drew
                  have HIW : Hid (Ix W bx (.slice (some ⟨g, 0, none⟩) S S) n (.slice (some ⟨go, 0, none⟩) O O) nx) := (HS.out.ix.other (b := go) (j := nx * 2 + 1) _ h2.symm).below hbA (by simpa using hxl)
                  have HPW : Hid (PRow W B g ps) := (HS.out.rp.other (b := go) (j := nx * 2 + 1) _ h3.symm).below hbA (by simpa using hgl)
                  have HOW : Hid (PRow W B go (os.set nx ((phn : Int), 18446744073709551615))) := (HS.out.ro.put2 HP.out).below hbA (by simpa using hol)
                  have HBW : Hid (Below B w W) := (HS.out.below.setCell (p := ⟨go, nx * 2 + 1, none⟩) HS.out.ro.lt.1 _).trans (hbA.mono (by have := HS.out.ro.lt.1; simp; omega))
                  have p4 : W.cell? ⟨wr.heap.size, 0, none⟩ = some (.int .u64 (phn : Int)) := by rw [hW]; simp [go_sem]
                  have p5 : W.cell? ⟨wr.heap.size, 1, none⟩ = some (.int .u64 pl) := by rw [hW]; simp [go_sem]
                  obtain ⟨pb, HPb⟩ : ∃ pb, Hid (pb = wr.heap.size) := ⟨_, rfl⟩
                  have hpb1 : pb ≠ bx := by rw [HPb.out]; omega
                  have hpb2 : pb ≠ g := by rw [HPb.out]; omega
                  rw [← HPb.out] at p4 p5 ⊢
                  rw [← hW]
                  clear hW hbA d0 d1 d2 d3 k0 k1 k2 k3 q1 q2 hgone hz hb1 hb2 hb3 hy1 hy2 hy3 hxl hgl hol
                  obtain ⟨d0, d1, d2, d3, k0, k1, k2, k3⟩ := HIW.out
                  obtain ⟨fz, hfz⟩ : ∃ fz : Nat, ∃ p : Pl, ps[fz]? = some p ∧ p.2 = 0 := free_exists (by rw [HS.out.oc, HS.out.lp]; have := HS.out.tt; omega)
                  have hfS : fz < S := by
                    obtain ⟨p, hp, _⟩ := hfz
                    rw [← HS.out.lp]; exact at_lt hp
                  have HFz : Hid (∃ p : Pl, ps[fz]? = some p ∧ p.2 = 0) := hfz
                  clear hfz
                  obtain ⟨i0, hi0⟩ : ∃ i0, i0 = phn % S := ⟨_, rfl⟩
                  have hi0S : i0 < S := by rw [hi0]; exact Nat.mod_lt _ (by omega)
                  have ha0 : bits .and .u64 (phn : Int) ((S : Int) - 1) = (i0 : Int) := by rw [HAnd.out phn (by omega), hi0]
                  clear hi0
                  go_wp2
                  go_loopw [6] (fun v wi => ∃ (i : Nat), i < S ∧ v = .int .u64 i ∧ Hid (wi = W)) (fun v _ => dist S fz (intOf v).toNat)
                  case atStart => exact ⟨i0, hi0S, rfl, rfl⟩
                  case round =>
                    obtain ⟨i, hi, rfl, HWi⟩ := hrel
                    obtain rfl := HWi.out
                    obtain ⟨⟨ah, al⟩, hap⟩ : ∃ p, ps[i]? = some p := ⟨ps[i]'(by rw [HS.out.lp]; exact hi), by simp⟩
                    obtain ⟨t1, t2⟩ := HPW.out.cells hap
                    simp only at t1 t2
                    have HAp : Hid (ps[i]? = some (ah, al)) := hap
                    have iS : (i : Int) < S := by omega
                    clear hap
                    by_cases ha : al = 0
                    · subst ha
                      have z1 := HPW.out.frozen (i * 2)
                      have z2 := HPW.out.frozen (i * 2 + 1)
                      go_wp2
                      go_region_held3 (fun w' => w'.cell? ⟨bx, 0, none⟩ = some (.slice (some ⟨g, 0, none⟩) S S) ∧ w'.cell? ⟨pb, 0, none⟩ = some (.int .u64 (phn : Int)) ∧ w'.cell? ⟨pb, 1, none⟩ = some (.int .u64 pl)) (simp [go_sem, *]) (fail)
                      all_goals
                        go_wp2
                        go_roundg (G - 1)
                        case measure => omega
                        case rel => exact ⟨ps.set i ((phn : Int), pl), os.set nx ((phn : Int), 18446744073709551615), n + 1, nx + 1, mv + 1, by omega, by go_num, by omega, by omega, by omega, HS.out.moved HIW.out HPW.out HOW.out HP.out ⟨hl0, hl1⟩ HBW.out HAp.out rfl h1 h2 h3 hbx⟩
                    · have ha' : (al != 0) = true := by simpa using ha
                      have hnx' : (i + 1) % S < S := Nat.mod_lt _ (by omega)
                      have ha1 : bits .and .u64 ((i : Int) + 1) ((S : Int) - 1) = (((i + 1) % S : Nat) : Int) := by have := HAnd.out (i + 1) (by omega); simpa using this
                      have HNe : Hid (i ≠ fz) := fun e => by
                        subst e
                        obtain ⟨p, hp, h0⟩ := HFz.out
                        rw [HAp.out] at hp
                        cases hp
                        exact ha h0
                      go_wp2
                      go_roundw
                      case rel => exact ⟨(i + 1) % S, hnx', rfl, trivial⟩
                      case measure => go_light; simp only [intOf, Int.toNat_natCast]; exact dist_step hfS hi HNe.out
        · have im : ¬ (mv : Int) < 4 := by omega
          rcases Nat.lt_or_ge nx O with hfin | hfin
          · first
            | (exfalso; omega)
            | (have h4 : nx0 + 4 ≤ nx := by first | omega | (have := HO.out; omega)
               have hfi : ((nx : Int) == (O : Int)) = false := by simp; omega
               go_wp2
               go_quiet (fail)
               go_wp2
               (try simp only [Exit.inBlock, Exit.then])
               refine bodyPost_end (results_none rfl _ _ _) rfl ?_
               have hS2 := HS.out.drewN nq
               exact ⟨rfl, ps, n, hS2.lp, hS2.oc, by have := hS2.tt; omega, hS2.wp, hS2.rp, hS2.below, .inr ⟨os, nx, hS2, h4, hfin⟩⟩)
          · first
            | (exfalso; omega)
            | (have hfi : ((nx : Int) == (O : Int)) = true := by simp; omega
               go_wp2
               go_quiet (fail)
               go_wp2
               (try simp only [Exit.inBlock, Exit.then])
               refine bodyPost_end (results_none rfl _ _ _) rfl ?_
               have hS2 := HS.out.drewN nq
               have eN : (nx : Int) = (O : Int) := by omega
               have hix3 := hS2.ix.ov_ (.slice none 0 0)
               rw [eN] at hix3
               exact ⟨rfl, ps, n, hS2.lp, hS2.oc, by have := hS2.tt; omega, hS2.wp, hS2.rp.other (b := bx) (j := 2) _ h1, hS2.below.setCell hbx _, .inl hix3⟩)
      · have iE : ¬ (nx : Int) < O := by omega
        rcases Nat.lt_or_ge nx O with hfin | hfin
        · first
          | (exfalso; omega)
          | (have h4 : nx0 + 4 ≤ nx := by first | omega | (have := HO.out; omega)
             have hfi : ((nx : Int) == (O : Int)) = false := by simp; omega
             go_wp2
             go_quiet (fail)
             go_wp2
             (try simp only [Exit.inBlock, Exit.then])
             refine bodyPost_end (results_none rfl _ _ _) rfl ?_
             have hS2 := HS.out.drewN nq
             exact ⟨rfl, ps, n, hS2.lp, hS2.oc, by have := hS2.tt; omega, hS2.wp, hS2.rp, hS2.below, .inr ⟨os, nx, hS2, h4, hfin⟩⟩)
        · first
          | (exfalso; omega)
          | (have hfi : ((nx : Int) == (O : Int)) = true := by simp; omega
             go_wp2
             go_quiet (fail)
             go_wp2
             (try simp only [Exit.inBlock, Exit.then])
             refine bodyPost_end (results_none rfl _ _ _) rfl ?_
             have hS2 := HS.out.drewN nq
             have eN : (nx : Int) = (O : Int) := by omega
             have hix3 := hS2.ix.ov_ (.slice none 0 0)
             rw [eN] at hix3
             exact ⟨rfl, ps, n, hS2.lp, hS2.oc, by have := hS2.tt; omega, hS2.wp, hS2.rp.other (b := bx) (j := 2) _ h1, hS2.below.setCell hbx _, .inl hix3⟩)
  · obtain ⟨E, hE1, HEE⟩ : ∃ E : Nat, ((nx0 : Int) + 32 = (E : Int)) ∧ Hid (E = nx0 + 32) := ⟨nx0 + 32, by omega, rfl⟩
    have hEO : E ≤ O := by rw [HEE.out]; omega
    have hE0 : nx0 ≤ E := by rw [HEE.out]; omega
    have hEO' : (E : Int) ≤ (O : Int) := by omega
    go_enter Try.func48, Try.ntmps48
    go_wp2
    go_quiet (fail)
    go_wp2
    go_loopg [2] O (fun gk v wr => ∃ (ps os : List Pl) (n nx mv : Nat), gk + nx = O + nx0 ∧ v = .int .i64 mv ∧ nx0 + mv ≤ nx ∧ nx ≤ E ∧ mv ≤ 4 ∧ Hid (SRel B bx g go S O os0 tot w wr ps os n nx))
    case atStart => exact ⟨ps0, os0, n0, nx0, 0, by omega, rfl, by omega, by omega, by omega, HR.out.drewN nq⟩
    case round =>
      obtain ⟨ps, os, n, nx, mv, hk, rfl, hmv, hnE, hmv4, HS⟩ := hrel
      obtain ⟨G, rfl⟩ : ∃ G, G = gk := ⟨_, rfl⟩
      obtain ⟨d0, d1, d2, d3, k0, k1, k2, k3⟩ := HS.out.ix
      have hxl := HS.out.ix.lt
      have hgl := HS.out.rp.lt.2
      have hol := HS.out.ro.lt.2
      by_cases hlt : nx < E
      · have iE : (nx : Int) < E := by omega
        by_cases hm : mv < 4
        · have im : (mv : Int) < 4 := by omega
          have iO : (nx : Int) < O := by omega
          obtain ⟨⟨ph, pl⟩, hp⟩ : ∃ p, os[nx]? = some p := ⟨os[nx]'(by rw [HS.out.lo]; omega), by simp⟩
          have hpw0 := HS.out.wo.all _ (List.mem_of_getElem? hp)
          simp only at hpw0
          obtain ⟨phn, rfl⟩ : ∃ m : Nat, ph = (m : Int) := ⟨ph.toNat, by omega⟩
          clear hpw0
          obtain ⟨q1, q2⟩ := HS.out.ro.cells hp
          simp only at q1 q2
          have HP : Hid (os[nx]? = some ((phn : Int), pl)) := hp
          have hpw := HS.out.wo.all _ (List.mem_of_getElem? hp)
          simp only at hpw
          have hz := HS.out.ro.frozen (nx * 2 + 1)
          have hn16 : n ≤ 16384 := by have := HS.out.tt; omega
          clear hp
          have hb1 : bx < wr.heap.size + 1 := by omega
          have hb2 : go < wr.heap.size + 1 := by omega
          have hb3 : g < wr.heap.size + 1 := by omega
          have hy1 : bx ≠ wr.heap.size := by omega
          have hy2 : go ≠ wr.heap.size := by omega
          have hy3 : g ≠ wr.heap.size := by omega
          go_wp2
          go_region_held3 (fun w' => w'.cell? ⟨bx, 2, none⟩ = some (.slice (some ⟨go, 0, none⟩) O O) ∧ w'.cell? ⟨bx, 3, none⟩ = some (.int .i64 nx) ∧ w'.cell? ⟨go, nx * 2, none⟩ = some (.int .u64 (phn : Int)) ∧ w'.cell? ⟨go, nx * 2 + 1, none⟩ = some (.int .u64 pl)) (simp [go_sem, World.cell?_alloc_past, *]) (fail)
          all_goals
            by_cases hl0 : pl = 0
            · subst hl0
              go_wp2
              go_roundg (G - 1)
              case measure => omega
              case rel => exact ⟨ps, os, n, nx + 1, mv, by omega, rfl, by omega, by omega, by omega, HS.out.skip _ h2.symm h1.symm hbx⟩
            · have hl0' : (pl == 0) = false := by simpa using hl0
              by_cases hl1 : pl = 18446744073709551615
              · subst hl1
                go_wp2
                go_roundg (G - 1)
                case measure => omega
                case rel => exact ⟨ps, os, n, nx + 1, mv, by omega, rfl, by omega, by omega, by omega, HS.out.skip _ h2.symm h1.symm hbx⟩
              · have hl1' : (pl == 18446744073709551615) = false := by simpa using hl1
                have hgone := HS.out.ro.frozen (nx * 2 + 1)
                go_wp2
                go_region_held3 (fun w' => w'.cell? ⟨bx, 2, none⟩ = some (.slice (some ⟨go, 0, none⟩) O O) ∧ w'.cell? ⟨bx, 3, none⟩ = some (.int .i64 nx)) (simp [go_sem, World.cell?_alloc_past, *]) (fail)
                all_goals
                  obtain ⟨W, hW⟩ : ∃ W, W = ((wr.setCell ⟨go, nx * 2 + 1, none⟩ (.int .u64 18446744073709551615)).alloc (Obj.cells #[Value.int .u64 (phn : Int), Value.int .u64 pl] 59)).drew.drew := ⟨_, rfl⟩
                  have hbA : Below (wr.setCell ⟨go, nx * 2 + 1, none⟩ (.int .u64 18446744073709551615)).heap.size (wr.setCell ⟨go, nx * 2 + 1, none⟩ (.int .u64 18446744073709551615)) W := by rw [hW]; exact ((Below.refl _ _).alloc (Nat.le_refl _) _).drew.drew
                  have HIW : Hid (Ix W bx (.slice (some ⟨g, 0, none⟩) S S) n (.slice (some ⟨go, 0, none⟩) O O) nx) := (HS.out.ix.other (b := go) (j := nx * 2 + 1) _ h2.symm).below hbA (by simpa using hxl)
                  have HPW : Hid (PRow W B g ps) := (HS.out.rp.other (b := go) (j := nx * 2 + 1) _ h3.symm).below hbA (by simpa using hgl)
                  have HOW : Hid (PRow W B go (os.set nx ((phn : Int), 18446744073709551615))) := (HS.out.ro.put2 HP.out).below hbA (by simpa using hol)
                  have HBW : Hid (Below B w W) := (HS.out.below.setCell (p := ⟨go, nx * 2 + 1, none⟩) HS.out.ro.lt.1 _).trans (hbA.mono (by have := HS.out.ro.lt.1; simp; omega))
                  have p4 : W.cell? ⟨wr.heap.size, 0, none⟩ = some (.int .u64 (phn : Int)) := by rw [hW]; simp [go_sem]
                  have p5 : W.cell? ⟨wr.heap.size, 1, none⟩ = some (.int .u64 pl) := by rw [hW]; simp [go_sem]
                  obtain ⟨pb, HPb⟩ : ∃ pb, Hid (pb = wr.heap.size) := ⟨_, rfl⟩
                  have hpb1 : pb ≠ bx := by rw [HPb.out]; omega
                  have hpb2 : pb ≠ g := by rw [HPb.out]; omega
                  rw [← HPb.out] at p4 p5 ⊢
                  rw [← hW]
                  clear hW hbA d0 d1 d2 d3 k0 k1 k2 k3 q1 q2 hgone hz hb1 hb2 hb3 hy1 hy2 hy3 hxl hgl hol
                  obtain ⟨d0, d1, d2, d3, k0, k1, k2, k3⟩ := HIW.out
                  obtain ⟨fz, hfz⟩ : ∃ fz : Nat, ∃ p : Pl, ps[fz]? = some p ∧ p.2 = 0 := free_exists (by rw [HS.out.oc, HS.out.lp]; have := HS.out.tt; omega)
                  have hfS : fz < S := by
                    obtain ⟨p, hp, _⟩ := hfz
                    rw [← HS.out.lp]; exact at_lt hp
                  have HFz : Hid (∃ p : Pl, ps[fz]? = some p ∧ p.2 = 0) := hfz
                  clear hfz
                  obtain ⟨i0, hi0⟩ : ∃ i0, i0 = phn % S := ⟨_, rfl⟩
                  have hi0S : i0 < S := by rw [hi0]; exact Nat.mod_lt _ (by omega)
                  have ha0 : bits .and .u64 (phn : Int) ((S : Int) - 1) = (i0 : Int) := by rw [HAnd.out phn (by omega), hi0]
                  clear hi0
                  go_wp2
                  go_loopw [6] (fun v wi => ∃ (i : Nat), i < S ∧ v = .int .u64 i ∧ Hid (wi = W)) (fun v _ => dist S fz (intOf v).toNat)
                  case atStart => exact ⟨i0, hi0S, rfl, rfl⟩
                  case round =>
                    obtain ⟨i, hi, rfl, HWi⟩ := hrel
                    obtain rfl := HWi.out
                    obtain ⟨⟨ah, al⟩, hap⟩ : ∃ p, ps[i]? = some p := ⟨ps[i]'(by rw [HS.out.lp]; exact hi), by simp⟩
                    obtain ⟨t1, t2⟩ := HPW.out.cells hap
                    simp only at t1 t2
                    have HAp : Hid (ps[i]? = some (ah, al)) := hap
                    have iS : (i : Int) < S := by omega
                    clear hap
                    by_cases ha : al = 0
                    · subst ha
                      have z1 := HPW.out.frozen (i * 2)
                      have z2 := HPW.out.frozen (i * 2 + 1)
                      go_wp2
                      go_region_held3 (fun w' => w'.cell? ⟨bx, 0, none⟩ = some (.slice (some ⟨g, 0, none⟩) S S) ∧ w'.cell? ⟨pb, 0, none⟩ = some (.int .u64 (phn : Int)) ∧ w'.cell? ⟨pb, 1, none⟩ = some (.int .u64 pl)) (simp [go_sem, *]) (fail)
                      all_goals
                        go_wp2
                        go_roundg (G - 1)
                        case measure => omega
                        case rel => exact ⟨ps.set i ((phn : Int), pl), os.set nx ((phn : Int), 18446744073709551615), n + 1, nx + 1, mv + 1, by omega, by go_num, by omega, by omega, by omega, HS.out.moved HIW.out HPW.out HOW.out HP.out ⟨hl0, hl1⟩ HBW.out HAp.out rfl h1 h2 h3 hbx⟩
                    · have ha' : (al != 0) = true := by simpa using ha
                      have hnx' : (i + 1) % S < S := Nat.mod_lt _ (by omega)
                      have ha1 : bits .and .u64 ((i : Int) + 1) ((S : Int) - 1) = (((i + 1) % S : Nat) : Int) := by have := HAnd.out (i + 1) (by omega); simpa using this
                      have HNe : Hid (i ≠ fz) := fun e => by
                        subst e
                        obtain ⟨p, hp, h0⟩ := HFz.out
                        rw [HAp.out] at hp
                        cases hp
                        exact ha h0
                      go_wp2
                      go_roundw
                      case rel => exact ⟨(i + 1) % S, hnx', rfl, trivial⟩
                      case measure => go_light; simp only [intOf, Int.toNat_natCast]; exact dist_step hfS hi HNe.out
        · have im : ¬ (mv : Int) < 4 := by omega
          rcases Nat.lt_or_ge nx O with hfin | hfin
          · first
            | (exfalso; omega)
            | (have h4 : nx0 + 4 ≤ nx := by first | omega | (have := HE.out; omega)
               have hfi : ((nx : Int) == (O : Int)) = false := by simp; omega
               go_wp2
               go_quiet (fail)
               go_wp2
               (try simp only [Exit.inBlock, Exit.then])
               refine bodyPost_end (results_none rfl _ _ _) rfl ?_
               have hS2 := HS.out.drewN nq
               exact ⟨rfl, ps, n, hS2.lp, hS2.oc, by have := hS2.tt; omega, hS2.wp, hS2.rp, hS2.below, .inr ⟨os, nx, hS2, h4, hfin⟩⟩)
          · first
            | (exfalso; omega)
            | (have hfi : ((nx : Int) == (O : Int)) = true := by simp; omega
               go_wp2
               go_quiet (fail)
               go_wp2
               (try simp only [Exit.inBlock, Exit.then])
               refine bodyPost_end (results_none rfl _ _ _) rfl ?_
               have hS2 := HS.out.drewN nq
               have eN : (nx : Int) = (O : Int) := by omega
               have hix3 := hS2.ix.ov_ (.slice none 0 0)
               rw [eN] at hix3
               exact ⟨rfl, ps, n, hS2.lp, hS2.oc, by have := hS2.tt; omega, hS2.wp, hS2.rp.other (b := bx) (j := 2) _ h1, hS2.below.setCell hbx _, .inl hix3⟩)
      · have iE : ¬ (nx : Int) < E := by omega
        rcases Nat.lt_or_ge nx O with hfin | hfin
        · first
          | (exfalso; omega)
          | (have h4 : nx0 + 4 ≤ nx := by first | omega | (have := HE.out; omega)
             have hfi : ((nx : Int) == (O : Int)) = false := by simp; omega
             go_wp2
             go_quiet (fail)
             go_wp2
             (try simp only [Exit.inBlock, Exit.then])
             refine bodyPost_end (results_none rfl _ _ _) rfl ?_
             have hS2 := HS.out.drewN nq
             exact ⟨rfl, ps, n, hS2.lp, hS2.oc, by have := hS2.tt; omega, hS2.wp, hS2.rp, hS2.below, .inr ⟨os, nx, hS2, h4, hfin⟩⟩)
        · first
          | (exfalso; omega)
          | (have hfi : ((nx : Int) == (O : Int)) = true := by simp; omega
             go_wp2
             go_quiet (fail)
             go_wp2
             (try simp only [Exit.inBlock, Exit.then])
             refine bodyPost_end (results_none rfl _ _ _) rfl ?_
             have hS2 := HS.out.drewN nq
             have eN : (nx : Int) = (O : Int) := by omega
             have hix3 := hS2.ix.ov_ (.slice none 0 0)
             rw [eN] at hix3
             exact ⟨rfl, ps, n, hS2.lp, hS2.oc, by have := hS2.tt; omega, hS2.wp, hS2.rp.other (b := bx) (j := 2) _ h1, hS2.below.setCell hbx _, .inl hix3⟩)
end Go.Proofs.Qxb6601018a
