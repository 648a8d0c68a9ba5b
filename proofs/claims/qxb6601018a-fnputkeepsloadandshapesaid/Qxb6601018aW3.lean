import Derived.Test.Qxb6601018aW2
namespace Go.Proofs.Qxb6601018a
open Go.RowKit
set_option linter.unusedVariables false

/-- All blocks but g are as they were. -/
theorem below_set {w w1 : World} {g j : Nat} (v : Value) (hb : Below w.heap.size w w1) (hg : g < w.heap.size) : w.grownBy (w1.setCell ⟨g, j, none⟩ v) (some g) :=
  ⟨hb.os, hb.tape, hb.output, by simpa using hb.size, fun k hk hne => by
    rw [Below.heap_setCell w1 ⟨g, j, none⟩ v k (fun e => hne (by rw [e]))]
    exact hb.block k hk⟩
theorem below_grown {w w1 : World} {r : Option Nat} (hb : Below w.heap.size w w1) : w.grownBy w1 r := ⟨hb.os, hb.tape, hb.output, hb.size, fun k hk _ => hb.block k hk⟩
theorem Ix.kept {w W : World} {bx : Nat} {pv : Value} {n : Int} {ov : Value} {nx : Int} {r : Option Nat} (h : Ix w bx pv n ov nx) (hg : w.grownBy W r) (hne : some bx ≠ r) : Ix W bx pv n ov nx := h.blk (hg.block bx h.lt hne)
theorem PRow.kept {w W : World} {B g : Nat} {ps : List Pl} {r : Option Nat} (h : PRow w B g ps) (hg : w.grownBy W r) (hne : some g ≠ r) : PRow W B g ps := World.ownsRow.kept h hg (.inr hne)

set_option maxHeartbeats 2000000 in
theorem release_nil (bx : Nat) (pv : Value) (n nx : Int) (h : Int) (w : World) (hix : Ix w bx pv n (.slice none 0 0) nx) :
    Calls Try.prog 49 #[.pointer (some ⟨bx, 0, none⟩), .int .u64 h] w fun e w' => e = .returned (.tuple #[]) ∧ w' = w := by
  obtain ⟨c0, c1, c2, c3, f0, f1, f2, f3⟩ := hix
  go_enter Try.func49, Try.ntmps49
  go_wp2
  (try simp only [Exit.inBlock, Exit.then])
  refine bodyPost_ret (results_none rfl _ _ _) rfl ?_
  exact ⟨rfl, rfl⟩

/-- What 'release' leaves of the old table. -/
structure Rel (os os' : List Pl) (f : Nat) : Prop where
  len : os'.length = os.length
  live : live os' ≤ live os
  wf : Wf os'
  free : ∃ p, os'[f]? = some p ∧ p.2 = 0

set_option maxHeartbeats 4000000 in
theorem release49 (B bx go O e : Nat) (os : List Pl) (pv : Value) (n nx : Int) (h : Nat) (w : World) (hix : Ix w bx pv n (.slice (some ⟨go, 0, none⟩) O O) nx) (HO : Hid (os.length = O)) (HE : Hid (O = 2 ^ e)) (he : 3 ≤ e ∧ e ≤ 14) (hh : h < 18446744073709551616) (hr : PRow w B go os) (f : Nat) (hf : ∃ p, os[f]? = some p ∧ p.2 = 0) (hwf : Wf os) (hne : bx ≠ go) :
    Calls Try.prog 49 #[.pointer (some ⟨bx, 0, none⟩), .int .u64 h] w fun e w' => e = .returned (.tuple #[]) ∧ ∃ os', Rel os os' f ∧ PRow w' B go os' ∧ w.grownBy w' (some go) := by
  have hfind := find41 B go O e os h w HO HE he hh hr f hf
  have hlt := hix.lt
  have hgo := hr.lt.2
  have HIX : Hid (Ix w bx pv n (.slice (some ⟨go, 0, none⟩) O O) nx) := hix
  have HR : Hid (PRow w B go os) := hr
  have HF : Hid (∃ p, os[f]? = some p ∧ p.2 = 0) := hf
  have HW : Hid (Wf os) := hwf
  obtain ⟨c0, c1, c2, c3, f0, f1, f2, f3⟩ := hix
  clear hr hf hwf
  go_enter Try.func49, Try.ntmps49
  go_wp2_with fail
  refine hfind.mono ?_
  rintro e1 w1 ⟨hres, hB1⟩
  have HB1 : Hid (Below w.heap.size w w1) := hB1
  obtain ⟨d0, d1, d2, d3, k0, k1, k2, k3⟩ := HIX.out.below hB1 hlt
  have hR1 : PRow w1 B go os := HR.out.below hB1 hgo
  clear hB1 c0 c1 c2 c3 f0 f1 f2 f3 hfind
  rcases hres with rfl | ⟨i, p, hp, hp0, hp1, rfl⟩
  · go_wp2
    (try simp only [Exit.inBlock, Exit.then])
    refine bodyPost_end (results_none rfl _ _ _) rfl ?_
    exact ⟨rfl, os, ⟨rfl, Nat.le_refl _, HW.out, HF.out⟩, hR1, below_grown HB1.out⟩
  · obtain ⟨q1, q2⟩ := hR1.cells hp
    have hz := hR1.frozen (i * 2 + 1)
    have hil : i < O := by rw [← HO.out]; exact at_lt hp
    have ii : (i : Int) < O := by omega
    have HP : Hid (os[i]? = some p) := hp
    have HR1 : Hid (PRow w1 B go os) := hR1
    clear hp hR1
    go_wp2
    (try simp only [Exit.inBlock, Exit.then])
    refine bodyPost_end (results_none rfl _ _ _) rfl ?_
    obtain ⟨p1, p2⟩ := p
    have hpw := HW.out.all (p1, p2) (List.mem_of_getElem? HP.out)
    have hlv : live (os.set i (p1, 18446744073709551615)) + 1 = live os := live_gone HP.out ⟨hp0, hp1⟩
    exact ⟨rfl, os.set i (p1, 18446744073709551615), ⟨by simp, by omega, HW.out.set i ⟨hpw.1, by simp, by simp⟩, free_keep HP.out hp0 HF.out⟩, HR1.out.put2 HP.out, below_set _ HB1.out hgo⟩
end Go.Proofs.Qxb6601018a
