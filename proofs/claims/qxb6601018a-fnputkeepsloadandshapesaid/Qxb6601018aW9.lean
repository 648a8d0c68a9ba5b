import Derived.Test.Qxb6601018aW8
namespace Go.Proofs.Qxb6601018a
open Go.RowKit
set_option linter.unusedVariables false

theorem put17 (B bx puts S : Nat) (old : Bool) (h loc : Nat) (w : World) (hS : State B bx puts S old w) (hB : B ≤ bx) (hh : h < 18446744073709551616) (hloc : loc < 18446744073709551614) (hpu : puts < 4096) :
    Calls Try.prog 17 #[.pointer (some ⟨bx, 0, none⟩), .int .u64 h, .int .u64 loc] w fun e w' => e = .returned (.tuple #[]) ∧ PutR B bx puts S old w w' := by
  have hp := put43 B bx puts S old h loc w hS hB hh hloc hpu
  clear hh hloc hS
  go_enter Try.func17, Try.ntmps17
  go_wp2_with fail
  refine hp.mono ?_
  rintro e1 w1 ⟨rfl, hr⟩
  have HR : Hid (PutR B bx puts S old w w1) := hr
  clear hr hp
  go_wp2
  (try simp only [Exit.inBlock, Exit.then])
  refine bodyPost_end (results_none rfl _ _ _) rfl ?_
  exact ⟨rfl, HR.out⟩

set_option maxHeartbeats 1000000 in
theorem new14 (w : World) : Calls Try.prog 14 #[.int .i64 8] w fun e w' => ∃ bx, e = .returned (.pointer (some ⟨bx, 0, none⟩)) ∧ w.heap.size ≤ bx ∧ State w.heap.size bx 0 8 false w' ∧ Below w.heap.size w w' := by
  obtain ⟨i0, hi, hz0, hz1, hz2⟩ := info_parts Try.info59
  go_enter Try.func14, Try.ntmps14
  go_wp2_with (at_make; refine wpList_make_full _ rfl _ _ 52 rfl w.heap.size 59 i0 _ 2 Try.underlying52 hi hz0 hz1 .i64 .i64 _ _ 8 rfl rfl rfl rfl (by rw [hz2]; omega) (by unfold maxLen; omega) (Nat.le_refl _) ?_; intro w0 hown0 hgrow0; have HG0 : Hid _ := hgrow0; have HO0 : Hid _ := hown0; clear hgrow0 hown0)
  go_ret
  have hO : w0.ownsRow w.heap.size 59 2 (.slice (some ⟨w.heap.size, 0, none⟩) 8 8) 8 (madeCells (Value.agg #[.int .u64 0, .int .u64 0]).cells (8 * 2)).toList := HO0.out
  rw [made_zero] at hO
  have r0 : PRow w0 w.heap.size w.heap.size (List.replicate 8 (0, 0)) := by
    unfold PRow
    rw [List.length_replicate]
    exact hO
  have hlt := r0.lt.2
  have hb : Below w.heap.size w w0 := grown_below HG0.out (Nat.le_refl _) (by simp)
  have hb1 : ∀ o, Below w0.heap.size w0 (w0.alloc o) := fun o => (Below.refl _ _).alloc (Nat.le_refl _) o
  exact ⟨w0.heap.size, rfl, by omega, ⟨3, w.heap.size, List.replicate 8 (0, 0), 0, 0, _, rfl, by omega, by omega, ⟨⟨by simp [go_sem], by simp [go_sem], by simp [go_sem], by simp [go_sem], by simp [go_sem], by simp [go_sem], by simp [go_sem], by simp [go_sem]⟩, r0.below (hb1 _) hlt, by simp, occ_zero 8, wf_zero 8⟩, by omega, by omega, .inl ⟨rfl, rfl⟩⟩, hb.alloc hb.size _⟩

def FillU (xs : List Value) (zs : List Nat) (k : Nat) : Prop := ∀ j z, j < k → zs[j]? = some z → xs[j]? = some (.int .u64 (z : Int))

def CloneR (N : Nat) (zs : List Nat) (w : World) (e : Ending) (w' : World) : Prop := ∃ a' c', e = .returned (.slice a' N c') ∧ USl w' a' N zs ∧ (∀ x, a' = some x → w.heap.size ≤ x.block ∧ x.block < w'.heap.size) ∧ Below w.heap.size w w'

set_option maxHeartbeats 1000000 in
theorem clone12 (a : Option Addr) (N cap : Nat) (zs : List Nat) (w : World) (hz : USl w a N zs) (hN : N ≤ 4096) :
    Calls Try.prog 12 #[.slice a N cap] w fun e w' => CloneR N zs w e w' := by
  cases a with
  | none =>
    have h0 := hz.nil rfl
    subst h0
    go_enter Try.func12, Try.ntmps12
    go_wp2
    go_ret
    exact ⟨none, 0, rfl, hz, fun x h => (by cases h), Below.refl _ _⟩
  | some x =>
    have HZ : Hid (USl w (some x) N zs) := hz
    clear hz
    obtain ⟨i0, hi, hz0, hz1, hz2⟩ := info_parts Try.info33
    go_enter Try.func12, Try.ntmps12
    go_wp2_with (at_make; refine wpList_make_full _ rfl _ _ 22 rfl w.heap.size 33 i0 _ 1 Try.underlying22 hi hz0 hz1 .i64 .i64 _ _ N rfl rfl rfl rfl (by rw [hz2]; omega) (by unfold maxLen; omega) (Nat.le_refl _) ?_; intro w0 hown0 hgrow0)
    have HO : Hid (w0.ownsRow w.heap.size 33 1 (.slice (some ⟨w.heap.size, 0, none⟩) N N) N _) := hown0
    have HB0 : Hid (Below w.heap.size w w0) := grown_below hgrow0 (Nat.le_refl _) (fun k h => by cases h)
    clear hown0 hgrow0 hi hz0 hz1 hz2
    go_loopw [4] (fun i wr => ∃ (k : Nat) (xs : List Value), k ≤ N ∧ i = .int .i64 k ∧ Hid (wr.ownsRow w.heap.size 33 1 (.slice (some ⟨w.heap.size, 0, none⟩) N N) N xs) ∧ Hid (FillU xs zs k) ∧ Hid (Below w.heap.size w wr)) (fun i _ => N - (intOf i).toNat)
    case atStart => exact ⟨0, _, by omega, rfl, HO, fun j c h => (by omega), HB0⟩
    case round =>
      obtain ⟨k, xs, hk, rfl, hown, hfil, HB⟩ := hrel
      by_cases hlt : k < N
      · obtain ⟨z, hzk⟩ : ∃ z, zs[k]? = some z := ⟨zs[k]'(by rw [HZ.out.len]; exact hlt), by simp⟩
        obtain ⟨b, o, e, q⟩ := HZ.out.at_ k z hzk
        cases e
        have hbl : b < w.heap.size := World.block_lt_of_cell? w _ q
        have q1 : wr.cell? ⟨b, o + k, none⟩ = some (.int .u64 (z : Int)) := (World.cell?_of_block (a := ⟨b, o + k, none⟩) (HB.out.block b hbl)).trans q
        have hxl : xs.length = N * 1 := hown.out.1
        obtain ⟨v0, t0⟩ : ∃ v, wr.cell? ⟨w.heap.size, k, none⟩ = some v := ⟨xs[k]'(by omega), by rw [hown.out.cellAt _ (by omega)]; simp⟩
        have f0 := hown.out.frozenAt k
        have HK : Hid (zs[k]? = some z) := hzk
        have i1k : (k : Int) < N := by omega
        clear hzk q
        go_wp2
        go_roundw
        case rel =>
          have hst := World.ownsRow.stored hown.out k (.int .u64 (z : Int))
          exact ⟨k + 1, xs.set k (.int .u64 (z : Int)), by omega, by go_num, hst.1, fun j y hj hy => by
            rcases Nat.lt_or_ge j k with h' | h'
            · rw [List.getElem?_set, if_neg (by omega)]
              exact hfil.out j y h' hy
            · obtain rfl : j = k := by omega
              rw [HK.out] at hy
              cases hy
              rw [List.getElem?_set, if_pos rfl, if_pos (by omega)], HB.out.setCell (Nat.le_refl _) _⟩
        case measure => go_light; simp only [intOf]; omega
      · have i1 : ¬ (k : Int) < N := by omega
        go_wp2
        go_ret
        have hlt2 := (World.ownsRow.lt hown.out w.heap.size rfl).2
        exact ⟨some ⟨w.heap.size, 0, none⟩, N, rfl, ⟨HZ.out.len, fun h => (by cases h), fun j z hj => ⟨w.heap.size, 0, rfl, by
          have hjN : j < N := by rw [← HZ.out.len]; exact at_lt hj
          rw [Nat.zero_add, hown.out.cellAt _ (by omega)]
          exact hfil.out j z (by omega) hj⟩, HZ.out.rng⟩, fun x h => (by cases h; exact ⟨Nat.le_refl _, hlt2⟩), HB.out⟩
end Go.Proofs.Qxb6601018a
