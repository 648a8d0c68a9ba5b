import Derived.Test.Qxb6602907aW3
import Derived.Deep.RegionHeld3
import Derived.BigRegion
namespace Go.Proofs.Qxb6602907a
open Go.RowKit
set_option linter.unusedVariables false

theorem Try.info42 : (Try.prog.info? 42).map (fun i => (i.zero, i.size, i.bytes)) = some (some (.agg #[.int .i64 0, .int .i64 0, .int .i64 0, .int .i64 0]), 4, 32) := by kernel_rfl
theorem Try.info44 : (Try.prog.info? 44).map (fun i => (i.zero, i.size, i.bytes)) = some (some (.agg #[.int .i64 0, .int .i64 0, .int .i64 0, .int .i64 0]), 4, 32) := by kernel_rfl

/-- Of the row xs the first k groups of four are the changes. -/
def Filled (xs : List Value) (cs : List Ch) (k : Nat) : Prop := ∀ j c, j < k → cs[j]? = some c → xs[j * 4]? = some (.int .i64 c.i0) ∧ xs[j * 4 + 1]? = some (.int .i64 c.i1) ∧ xs[j * 4 + 2]? = some (.int .i64 c.j0) ∧ xs[j * 4 + 3]? = some (.int .i64 c.j1)

theorem filled_step {xs : List Value} {cs : List Ch} {k N : Nat} {c : Ch} (hl : xs.length = N * 4) (hk : k < N) (hck : cs[k]? = some c) (h : Filled xs cs k) :
    Filled ((((xs.set (k * 4) (.int .i64 c.i0)).set (k * 4 + 1) (.int .i64 c.i1)).set (k * 4 + 2) (.int .i64 c.j0)).set (k * 4 + 3) (.int .i64 c.j1)) cs (k + 1) := by
  intro j d hj hd
  by_cases hjk : j = k
  · subst hjk
    rw [hck] at hd
    cases hd
    simp only [List.getElem?_set, List.length_set]
    refine ⟨?_, ?_, ?_, ?_⟩
    all_goals repeat (first | rw [if_pos trivial] | rw [if_neg (by omega)] | rw [if_pos (by omega)])
  · have := h j d (by omega) hd
    simp only [List.getElem?_set, List.length_set]
    refine ⟨?_, ?_, ?_, ?_⟩
    · rw [if_neg (by omega), if_neg (by omega), if_neg (by omega), if_neg (by omega)]; exact this.1
    · rw [if_neg (by omega), if_neg (by omega), if_neg (by omega), if_neg (by omega)]; exact this.2.1
    · rw [if_neg (by omega), if_neg (by omega), if_neg (by omega), if_neg (by omega)]; exact this.2.2.1
    · rw [if_neg (by omega), if_neg (by omega), if_neg (by omega), if_neg (by omega)]; exact this.2.2.2

theorem filled_at {w : World} {B g e N cap : Nat} {xs : List Value} {cs : List Ch} (h : w.ownsRow B e 4 (.slice (some ⟨g, 0, none⟩) N cap) N xs) (hf : Filled xs cs N) (hN : cs.length = N) : ChAt w (some ⟨g, 0, none⟩) cs := by
  intro k c hk
  have hlt : k < cs.length := by
    rcases Nat.lt_or_ge k cs.length with h | h
    · exact h
    · rw [List.getElem?_eq_none h] at hk; cases hk
  have := hf k c (by omega) hk
  refine ⟨g, 0, rfl, ?_, ?_, ?_, ?_⟩
  · rw [Nat.zero_add, h.cellAt _ (by omega)]; exact this.1
  · rw [Nat.zero_add, h.cellAt _ (by omega)]; exact this.2.1
  · rw [Nat.zero_add, h.cellAt _ (by omega)]; exact this.2.2.1
  · rw [Nat.zero_add, h.cellAt _ (by omega)]; exact this.2.2.2

set_option maxHeartbeats 1600000 in
set_option maxRecDepth 8000 in
theorem toshim9 (a : Option Addr) (N cap : Nat) (cs : List Ch) (w : World) (HN : Hid (N = cs.length)) (hn : N ≤ 1048576) (hc : ChAt w a cs) :
    Calls Try.prog 9 #[.slice a N cap] w fun e w' => e = .returned (.slice (some ⟨w.heap.size, 0, none⟩) N N) ∧ ChAt w' (some ⟨w.heap.size, 0, none⟩) cs ∧ Below w.heap.size w w' := by
  have HC : Hid (ChAt w a cs) := hc
  clear hc
  obtain ⟨i0, hi, hz0, hz1, hz2⟩ := info_parts Try.info42
  go_enter Try.func9, Try.ntmps9
  go_wp2_with (at_make; refine wpList_make_full _ rfl _ _ 29 rfl w.heap.size 42 i0 _ 4 Try.underlying29 hi hz0 hz1 .i64 .i64 _ _ N rfl rfl rfl rfl (by rw [hz2]; omega) (by unfold maxLen; omega) (Nat.le_refl _) ?_; intro w0 hown0 hgrow0)
  have HO : Hid (w0.ownsRow w.heap.size 42 4 (.slice (some ⟨w.heap.size, 0, none⟩) N N) N (madeCells (Value.agg #[.int .i64 0, .int .i64 0, .int .i64 0, .int .i64 0]).cells (N * 4)).toList) := hown0
  have HB0 : Hid (Below w.heap.size w w0) := grown_below hgrow0 (Nat.le_refl _) (fun k h => by cases h)
  clear hown0 hgrow0 hi hz0 hz1 hz2
  go_loopw [4] (fun i wr => ∃ (k : Nat) (xs : List Value), k ≤ N ∧ i = .int .i64 k ∧ Hid (wr.ownsRow w.heap.size 42 4 (.slice (some ⟨w.heap.size, 0, none⟩) N N) N xs) ∧ Hid (Filled xs cs k) ∧ Hid (Below w.heap.size w wr)) (fun i _ => N - (intOf i).toNat)
  case atStart => exact ⟨0, _, by omega, rfl, HO, fun j c h => (by omega), HB0⟩
  case round =>
    obtain ⟨k, xs, hk, rfl, hown, hfil, HB⟩ := hrel
    by_cases hlt : k < N
    · obtain ⟨c, hck⟩ : ∃ c, cs[k]? = some c := ⟨cs[k]'(by rw [← HN.out]; exact hlt), by simp⟩
      obtain ⟨b, o, rfl, q0, q1, q2, q3⟩ := HC.out k c hck
      have hbl : b < w.heap.size := World.block_lt_of_cell? w _ q0
      have g0 := (HB.out.cell (p := ⟨b, o + k * 4, none⟩) hbl).trans q0
      have g1 := (HB.out.cell (p := ⟨b, o + k * 4 + 1, none⟩) hbl).trans q1
      have g2 := (HB.out.cell (p := ⟨b, o + k * 4 + 2, none⟩) hbl).trans q2
      have g3 := (HB.out.cell (p := ⟨b, o + k * 4 + 3, none⟩) hbl).trans q3
      have hxl : xs.length = N * 4 := hown.out.1
      have there : ∀ t, t < 4 → ∃ v, wr.cell? ⟨w.heap.size, k * 4 + t, none⟩ = some v := fun t ht => ⟨xs[k * 4 + t]'(by omega), by rw [hown.out.cellAt _ (by omega)]; simp⟩
      obtain ⟨v0, t0⟩ := there 0 (by omega)
      obtain ⟨v1, t1⟩ := there 1 (by omega)
      obtain ⟨v2, t2⟩ := there 2 (by omega)
      obtain ⟨v3, t3⟩ := there 3 (by omega)
      have f0 := hown.out.frozenAt (k * 4)
      have f1 := hown.out.frozenAt (k * 4 + 1)
      have f2 := hown.out.frozenAt (k * 4 + 2)
      have f3 := hown.out.frozenAt (k * 4 + 3)
      have HK : Hid (cs[k]? = some c) := hck
      clear hck q0 q1 q2 q3 there
      obtain ⟨i0, i1, j0, j1⟩ := c
      simp only [Nat.add_zero] at g0 g1 g2 g3 t0
      have i1k : (k : Int) < N := by omega
      have hne : b ≠ w.heap.size := by omega
      have hne' : w.heap.size ≠ b := by omega
      go_wp2
      go_region_held3 (fun w' => w'.cell? ⟨b, o + k * 4, none⟩ = some (.int .i64 i0) ∧ w'.cell? ⟨b, o + k * 4 + 1, none⟩ = some (.int .i64 i1) ∧ w'.cell? ⟨b, o + k * 4 + 2, none⟩ = some (.int .i64 j0) ∧ w'.cell? ⟨b, o + k * 4 + 3, none⟩ = some (.int .i64 j1)) (go_keep) (fail)
      go_wp2
      go_roundw
      case rel => exact ⟨k + 1, _, by omega, by go_num, ((((hown.out.stored _ _).1.stored _ _).1.stored _ _).1.stored _ _).1.drew, filled_step hxl hlt HK.out hfil.out, ((((HB.out.setCell (Nat.le_refl _) _).setCell (Nat.le_refl _) _).setCell (Nat.le_refl _) _).setCell (Nat.le_refl _) _).drew⟩
      case measure => go_light; simp only [intOf]; omega
    · have hkN : k = N := by omega
      go_wp2
      go_ret
      exact ⟨rfl, filled_at hown.out (hkN ▸ hfil.out) HN.out.symm, HB.out⟩
end Go.Proofs.Qxb6602907a
