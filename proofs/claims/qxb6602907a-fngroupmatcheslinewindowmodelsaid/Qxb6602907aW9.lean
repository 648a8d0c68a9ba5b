import Derived.Test.Qxb6602907aW6
namespace Go.Proofs.Qxb6602907a
open Go.RowKit
set_option linter.unusedVariables false

set_option maxHeartbeats 1600000 in
set_option maxRecDepth 8000 in
theorem zzgroup8 (s1 s2 : ByteArray) (b1 o1 n1 c1 b2 o2 n2 c2 : Nat) (z1 z2 : List Int) (a : Option Addr) (N cap : Nat) (cs : List Ch) (w : World)
    (hI1 : I32At w b1 o1 z1) (HZ1 : Hid (z1.length = n1)) (hT1 : TextOK s1 z1) (hI2 : I32At w b2 o2 z2) (HZ2 : Hid (z2.length = n2)) (hT2 : TextOK s2 z2)
    (hn1 : n1 ≤ 1048576) (hn2 : n2 ≤ 1048576) (hp1 : 0 < n1) (hp2 : 0 < n2) (hs1 : s1.size ≤ 1048576) (hs2 : s2.size ≤ 1048576)
    (hc : ChAt w a cs) (HN : Hid (N = cs.length)) (hn : N ≤ 1048576) (hok : COK ((n1 : Int) - 1) ((n2 : Int) - 1) true 0 0 cs) :
    Calls Try.prog 8 #[.string s1, .slice (some ⟨b1, o1, none⟩) n1 c1, .string s2, .slice (some ⟨b2, o2, none⟩) n2 c2, .slice a N cap] w fun e w' =>
      ∃ v base, e = .returned v ∧ w.heap.size ≤ base ∧ HunksIn w' base v (groupM s1 z1 s2 z2 ((n1 : Int) - 1) N cs) ∧ Below w.heap.size w w' := by
  have HI1 : Hid (I32At w b1 o1 z1 ∧ TextOK s1 z1) := ⟨hI1, hT1⟩
  have HI2 : Hid (I32At w b2 o2 z2 ∧ TextOK s2 z2) := ⟨hI2, hT2⟩
  have HOK : Hid (COK ((n1 : Int) - 1) ((n2 : Int) - 1) true 0 0 cs) := hok
  clear hI1 hT1 hI2 hT2 hok
  have HC : Hid (ChAt w a cs) := hc
  clear hc
  obtain ⟨i0, hi, hz0, hz1, hz2⟩ := info_parts Try.info44
  go_enter Try.func8, Try.ntmps8
  go_wp2_with (at_make; refine wpList_make_full _ rfl _ _ 41 rfl w.heap.size 44 i0 _ 4 Try.underlying41 hi hz0 hz1 .i64 .i64 _ _ N rfl rfl rfl rfl (by rw [hz2]; omega) (by unfold maxLen; omega) (Nat.le_refl _) ?_; intro w0 hown0 hgrow0)
  have HO : Hid (w0.ownsRow w.heap.size 44 4 (.slice (some ⟨w.heap.size, 0, none⟩) N N) N (madeCells (Value.agg #[.int .i64 0, .int .i64 0, .int .i64 0, .int .i64 0]).cells (N * 4)).toList) := hown0
  have HB0 : Hid (Below w.heap.size w w0) := grown_below hgrow0 (Nat.le_refl _) (fun k h => by cases h)
  clear hown0 hgrow0 hi hz0 hz1 hz2
  go_loopw [12] (fun i wr => ∃ (k : Nat) (xs : List Value), k ≤ N ∧ i = .int .i64 k ∧ Hid (wr.ownsRow w.heap.size 44 4 (.slice (some ⟨w.heap.size, 0, none⟩) N N) N xs) ∧ Hid (Filled xs cs k) ∧ Hid (Below w.heap.size w wr)) (fun i _ => N - (intOf i).toNat)
  case atStart => exact ⟨0, _, by omega, rfl, HO, fun j c h => (by omega), HB0⟩
  case round =>
    obtain ⟨k, xs, hk, rfl, hown, hfil, HB⟩ := hrel
    by_cases hlt : k < N
    · obtain ⟨c, hck⟩ : ∃ c, cs[k]? = some c := ⟨cs[k]'(by rw [← HN.out]; exact hlt), by simp⟩
      obtain ⟨b, o, rfl, q0, q1, q2, q3⟩ := HC.out k c hck
      have hbl : b < w.heap.size := World.block_lt_of_cell? w _ q0
      have g0 := (HB.out.cell (p := ⟨b, o + k * 4, none⟩) hbl).trans q0
      have g1 := (HB.out.cell (p := ⟨b, o + k * 4 + 1, none⟩) hbl).trans q1
      have g2 := (HB.out.cell (p := ⟨b, o + k * 4 + 2, none⟩) hbl).trans q2
      have g3 := (HB.out.cell (p := ⟨b, o + k * 4 + 3, none⟩) hbl).trans q3
      have hxl : xs.length = N * 4 := hown.out.1
      have there : ∀ t, t < 4 → ∃ v, wr.cell? ⟨w.heap.size, k * 4 + t, none⟩ = some v := fun t ht => ⟨xs[k * 4 + t]'(by omega), by rw [hown.out.cellAt _ (by omega)]; simp⟩
      obtain ⟨v0, t0⟩ := there 0 (by omega)
      obtain ⟨v1, t1⟩ := there 1 (by omega)
      obtain ⟨v2, t2⟩ := there 2 (by omega)
      obtain ⟨v3, t3⟩ := there 3 (by omega)
      have f0 := hown.out.frozenAt (k * 4)
      have f1 := hown.out.frozenAt (k * 4 + 1)
      have f2 := hown.out.frozenAt (k * 4 + 2)
      have f3 := hown.out.frozenAt (k * 4 + 3)
      have HK : Hid (cs[k]? = some c) := hck
      clear hck q0 q1 q2 q3 there
      obtain ⟨i0, i1, j0, j1⟩ := c
      simp only [Nat.add_zero] at g0 g1 g2 g3 t0
      have i1k : (k : Int) < N := by omega
      have hne : b ≠ w.heap.size := by omega
      have hne' : w.heap.size ≠ b := by omega
      go_wp2
      go_region_held3 (fun w' => w'.cell? ⟨b, o + k * 4, none⟩ = some (.int .i64 i0) ∧ w'.cell? ⟨b, o + k * 4 + 1, none⟩ = some (.int .i64 i1) ∧ w'.cell? ⟨b, o + k * 4 + 2, none⟩ = some (.int .i64 j0) ∧ w'.cell? ⟨b, o + k * 4 + 3, none⟩ = some (.int .i64 j1)) (go_keep) (fail)
      go_wp2
      go_roundw
      case rel => exact ⟨k + 1, _, by omega, by go_num, ((((hown.out.stored _ _).1.stored _ _).1.stored _ _).1.stored _ _).1.drew, filled_step hxl hlt HK.out hfil.out, ((((HB.out.setCell (Nat.le_refl _) _).setCell (Nat.le_refl _) _).setCell (Nat.le_refl _) _).setCell (Nat.le_refl _) _).drew⟩
      case measure => go_light; simp only [intOf]; omega
    · have hkN : k = N := by omega
      have HF : Hid (ChAt wr (some ⟨w.heap.size, 0, none⟩) cs) := filled_at hown.out (hkN ▸ hfil.out) HN.out.symm
      have HJ1 : Hid (I32At wr b1 o1 z1) := HI1.out.1.below HB.out (HI1.out.1.lt (by rw [HZ1.out]; omega))
      have HJ2 : Hid (I32At wr b2 o2 z2) := HI2.out.1.below HB.out (HI2.out.1.lt (by rw [HZ2.out]; omega))
      have hwz : w.heap.size ≤ wr.heap.size := HB.out.size
      go_wp2_with (go_at_call 14; refine (group14 s1 s2 b1 o1 n1 c1 b2 o2 n2 c2 z1 z2 (some ⟨w.heap.size, 0, none⟩) N N cs _ (by exact HJ1.out) HZ1 HI1.out.2 (by exact HJ2.out) HZ2 HI2.out.2 hn1 hn2 hs1 hs2 (by exact HF.out) HN hn (Nat.le_refl _) (by unfold maxLen; omega) HOK.out).mono ?_; rintro e w3 ⟨v, rfl, hH, hB3⟩)
      go_ret
      exact ⟨_, _, rfl, by omega, hH, HB.out.trans (hB3.mono hwz)⟩
end Go.Proofs.Qxb6602907a
