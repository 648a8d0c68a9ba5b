import Derived.Test.Qxb6602907aB1
import Derived.Deep.CutBlock
import Derived.Deep.DeepCutAuto
import Derived.Deep.LoopGhost
import Derived.Deep.RegionHeld3
import Derived.WalkLawsBesides
namespace Go.Proofs.Qxb6602907a
open Go.RowKit
set_option linter.unusedVariables false

set_option maxHeartbeats 400000 in
theorem bytes5 (s1 s2 : ByteArray) (a1 a2 a3 : Option Addr) (n1 c1 n2 c2 n3 c3 : Nat) (w : World)
   (h1 : s1.size ≤ maxLen) (h2 : s2.size ≤ maxLen) (h3 : n1 ≤ maxLen) (h4 : n2 ≤ maxLen) (h5 : n3 ≤ maxLen) :
    Calls Try.prog 5 #[.string s1, .slice a1 n1 c1, .string s2, .slice a2 n2 c2, .slice a3 n3 c3] w fun e w' =>
      (∃ b : Bool, e = .returned (.bool b) ∧ (b = true → s1.size + n1 + s2.size + n2 + n3 ≤ 1048576)) ∧ w' = w := by
  unfold maxLen at *
  go_enter Try.func5, Try.ntmps5
  go_wp2
  all_goals go_ret
  all_goals refine ⟨⟨_, rfl, fun h => ?_⟩, rfl⟩
  all_goals first | (exfalso; revert h; decide) | omega

theorem hunks_len {w : World} {base : Nat} {v : Value} {hs : List Hk} (h : HunksIn w base v hs) : (∃ a c, v = .slice a hs.length c) ∧ hs.length ≤ maxLen := by
  obtain ⟨rvs, _, ho, _⟩ := h
  exact ⟨owns_len ho, owns_max ho⟩

set_option maxHeartbeats 8000000 in
set_option maxRecDepth 8000 in
theorem same11 (v1 v2 : Value) (base1 base2 : Nat) (hs : List Hk) (w : World) (h1 : HunksIn w base1 v1 hs) (h2 : HunksIn w base2 v2 hs) :
    Calls Try.prog 11 #[v1, v2] w fun e w' => e = .returned (.bool true) ∧ Below w.heap.size w w' := by
  obtain ⟨⟨a1, c1, rfl⟩, hm⟩ := hunks_len h1
  obtain ⟨⟨a2, c2, rfl⟩, _⟩ := hunks_len h2
  obtain ⟨K, HK⟩ : ∃ K, Hid (K = hs.length) := ⟨_, rfl⟩
  rw [← HK.out] at h1 h2 hm ⊢
  unfold maxLen at hm
  have H1 : Hid (HunksIn w base1 (.slice a1 K c1) hs) := h1
  have H2 : Hid (HunksIn w base2 (.slice a2 K c2) hs) := h2
  clear h1 h2
  go_enter Try.func11, Try.ntmps11
  go_wp2
  go_loopg [5] K (fun gk vk wr => ∃ k : Nat, gk + k = K ∧ vk = .int .i64 k ∧ Hid (Below w.heap.size w wr) ∧ w.heap.size ≤ wr.heap.size)
  case atStart => exact ⟨0, by omega, rfl, Below.refl _ _, Nat.le_refl _⟩
  case round =>
    obtain ⟨k, hk, rfl, HB, hz⟩ := hrel
    obtain ⟨G, rfl⟩ : ∃ G, G = gk := ⟨_, rfl⟩
    by_cases hlt : k < K
    · obtain ⟨x, hx⟩ : ∃ x, hs[k]? = some x := ⟨hs[k]'(by rw [← HK.out]; exact hlt), by simp⟩
      obtain ⟨g1, rv1, rfl, hg1, p0, p1, p2, p3, p4, hr1⟩ := hunks_at H1.out hx
      obtain ⟨g2, rv2, rfl, hg2, q0, q1, q2, q3, q4, hr2⟩ := hunks_at H2.out hx
      have p0 := (HB.out.cell (p := ⟨g1, k * 5, none⟩) hg1).trans p0
      have p1 := (HB.out.cell (p := ⟨g1, k * 5 + 1, none⟩) hg1).trans p1
      have p2 := (HB.out.cell (p := ⟨g1, k * 5 + 2, none⟩) hg1).trans p2
      have p3 := (HB.out.cell (p := ⟨g1, k * 5 + 3, none⟩) hg1).trans p3
      have p4 := (HB.out.cell (p := ⟨g1, k * 5 + 4, none⟩) hg1).trans p4
      have q0 := (HB.out.cell (p := ⟨g2, k * 5, none⟩) hg2).trans q0
      have q1 := (HB.out.cell (p := ⟨g2, k * 5 + 1, none⟩) hg2).trans q1
      have q2 := (HB.out.cell (p := ⟨g2, k * 5 + 2, none⟩) hg2).trans q2
      have q3 := (HB.out.cell (p := ⟨g2, k * 5 + 3, none⟩) hg2).trans q3
      have q4 := (HB.out.cell (p := ⟨g2, k * 5 + 4, none⟩) hg2).trans q4
      obtain ⟨fr, tw, fc, tc, runs⟩ := x
      simp only at p0 p1 p2 p3 q0 q1 q2 q3 hr1 hr2
      have hmx : runs.length ≤ maxLen := owns_max hr1
      obtain ⟨ar1, cr1, rfl⟩ := owns_len hr1
      obtain ⟨ar2, cr2, rfl⟩ := owns_len hr2
      obtain ⟨R, HR⟩ : ∃ R, Hid (R = runs.length) := ⟨_, rfl⟩
      rw [← HR.out] at hr1 hr2 p4 q4 hmx
      have HR1 : Hid (RunsIn w base1 (.slice ar1 R cr1) runs) := hr1
      have HR2 : Hid (RunsIn w base2 (.slice ar2 R cr2) runs) := hr2
      clear hr1 hr2 hx
      unfold maxLen at hmx
      have ik : (k : Int) < K := by omega
      have hg1r : g1 < wr.heap.size := by omega
      have hg2r : g2 < wr.heap.size := by omega
      have hg2r' : g2 < wr.heap.size + 1 := by omega
      go_wp2
      obtain ⟨wb, hwb⟩ : ∃ wb, wb = (wr.alloc (Obj.cells #[Value.int IntKind.i64 fr, Value.int IntKind.i64 tw, Value.int IntKind.i64 fc, Value.int IntKind.i64 tc, Value.slice ar1 R cr1] 36)).alloc (Obj.cells #[Value.int IntKind.i64 fr, Value.int IntKind.i64 tw, Value.int IntKind.i64 fc, Value.int IntKind.i64 tc, Value.slice ar2 R cr2] 36) := ⟨_, rfl⟩
      have e1 : wb.cell? ⟨wr.heap.size, 4, none⟩ = some (.slice ar1 R cr1) := by rw [hwb]; simp
      have e2 : wb.cell? ⟨wr.heap.size + 1, 4, none⟩ = some (.slice ar2 R cr2) := by rw [hwb]; simp
      have HBb : Hid (Below w.heap.size w wb) := by rw [hwb]; exact (HB.out.alloc hz _).alloc (by simp; omega) _
      have hbz : w.heap.size ≤ wb.heap.size := HBb.out.size
      rw [← hwb]
      clear hwb p0 p1 p2 p3 p4 q0 q1 q2 q3 q4
      obtain ⟨b1, HB1⟩ : ∃ b1, Hid (b1 = wr.heap.size) := ⟨_, rfl⟩
      obtain ⟨b2, HB2⟩ : ∃ b2, Hid (b2 = wr.heap.size + 1) := ⟨_, rfl⟩
      rw [← HB2.out] at e2 ⊢
      rw [← HB1.out] at e1 ⊢
      go_loopg [8] R (fun gk vq wx => ∃ q nd : Nat, gk + q = R ∧ vq = .int .i64 q ∧ Hid (wx = wb.drewN nd))
      case atStart => exact ⟨0, 0, by omega, rfl, rfl⟩
      case round =>
        obtain ⟨wx, rfl⟩ : ∃ wx, wx = wr := ⟨_, rfl⟩
        obtain ⟨q, nd, hq, rfl, HWx⟩ := hrel
        have e1 : wx.cell? ⟨b1, 4, none⟩ = some (.slice ar1 R cr1) := by rw [HWx.out]; exact e1
        have e2 : wx.cell? ⟨b2, 4, none⟩ = some (.slice ar2 R cr2) := by rw [HWx.out]; exact e2
        by_cases hqR : q < R
        · obtain ⟨r, hr⟩ : ∃ r, runs[q]? = some r := ⟨runs[q]'(by rw [← HR.out]; exact hqR), by simp⟩
          obtain ⟨y1, rfl, hy1, m1, m2⟩ := runs_at HR1.out hr
          obtain ⟨y2, rfl, hy2, m3, m4⟩ := runs_at HR2.out hr
          have m1 : wx.cell? ⟨y1, q * 2, none⟩ = some (.int .u8 r.1) := by rw [HWx.out]; exact (HBb.out.cell (p := ⟨y1, q * 2, none⟩) hy1).trans m1
          have m2 : wx.cell? ⟨y1, q * 2 + 1, none⟩ = some (.string r.2) := by rw [HWx.out]; exact (HBb.out.cell (p := ⟨y1, q * 2 + 1, none⟩) hy1).trans m2
          have m3 : wx.cell? ⟨y2, q * 2, none⟩ = some (.int .u8 r.1) := by rw [HWx.out]; exact (HBb.out.cell (p := ⟨y2, q * 2, none⟩) hy2).trans m3
          have m4 : wx.cell? ⟨y2, q * 2 + 1, none⟩ = some (.string r.2) := by rw [HWx.out]; exact (HBb.out.cell (p := ⟨y2, q * 2 + 1, none⟩) hy2).trans m4
          obtain ⟨op, st⟩ := r
          simp only at m1 m2 m3 m4
          clear hr
          have iq : (q : Int) < R := by omega
          go_wp2
          go_quiet (fail)
          go_wp2
          go_roundg (gk - 1)
          case measure => omega
          case rel => exact ⟨q + 1, _, by omega, by go_num, by unfold Hid; rw [HWx.out]; exact drewN_add _ _ _⟩
        · go_wp2
          go_roundg (G - 1)
          case measure => omega
          case rel => exact ⟨k + 1, by omega, by go_num, by unfold Hid; rw [HWx.out]; exact below_drewN HBb.out _, by rw [HWx.out]; exact hbz⟩
    · go_wp2
      go_ret
      exact ⟨rfl, HB.out⟩
end Go.Proofs.Qxb6602907a
