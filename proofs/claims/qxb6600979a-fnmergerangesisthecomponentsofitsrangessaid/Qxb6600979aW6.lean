import Derived.Test.Qxb6600979aW5
namespace Go.Proofs.Qxb6600979a
open Go.RowKit
set_option linter.unusedVariables false

theorem grown_cell {w w' : World} {row : Option Nat} (h : w.grownBy w' row) {p : Addr} (hp : p.block < w.heap.size) (hne : some p.block ≠ row) : w'.cell? p = w.cell? p := World.cell?_of_block (h.block p.block hp hne)

theorem two_new (w : World) (a b : Value) (t : TypeId) (g : Nat) (hg : g = w.heap.size) : ∀ j u, [a, b][j]? = some u → (w.alloc (.cells #[a, b] t)).cell? ((⟨g, 0, none⟩ : Addr).add j) = some u := by
  subst hg
  intro j u hj
  rw [Addr.add_mid]
  have : j = 0 ∨ j = 1 := by
    rcases Nat.lt_or_ge j 2 with h | h
    · omega
    · rw [List.getElem?_eq_none (by simpa using h)] at hj; cases hj
  rcases this with rfl | rfl <;> (simp at hj; subst hj; simp [go_sem])

/-- What 'toKeyRanges' hands back. -/
def ToR (xs : List (Sl × Sl)) (N : Nat) (w w' : World) (e : Ending) : Prop := e = .returned (.slice (some ⟨w.heap.size, 0, none⟩) N N) ∧ ∃ ys zs, w'.ownsRow w.heap.size 32 2 (.slice (some ⟨w.heap.size, 0, none⟩) N N) N zs ∧ Fill zs ys ∧ ys.length = N ∧ Cop w' w.heap.size xs ys ∧ Below w.heap.size w w'

set_option maxHeartbeats 8000000 in
set_option maxRecDepth 8000 in
theorem tokey13 (a : Option Addr) (N c : Nat) (xs : List (Sl × Sl)) (w : World) (HN : Hid (N = xs.length)) (hN : N * 48 ≤ 1048576) (hr : RowR w a xs) (ha : AllAt w xs) :
    Calls Try.prog 13 #[.slice a N c] w fun e w' => ToR xs N w w' e := by
  have HR : Hid (RowR w a xs) := hr
  have HA : Hid (AllAt w xs) := ha
  clear hr ha
  obtain ⟨i0, hi, hz0, hz1, hz2⟩ := info_parts Try.info32
  go_enter Try.func13, Try.ntmps13
  go_wp2_with (at_make; refine wpList_make_own _ rfl _ _ 26 rfl w.heap.size 32 i0 _ 2 Try.underlying26 hi hz0 hz1 .i64 .i64 _ N rfl rfl rfl (by rw [hz2]; omega) (by unfold maxLen; omega) (Nat.le_refl _) ?_; intro w0 hown0 hgrow0)
  obtain ⟨zs0, hown0'⟩ := owns_room hown0
  have HO : Hid (w0.ownsRow w.heap.size 32 2 (.slice (some ⟨w.heap.size, 0, none⟩) N N) N zs0) := hown0'
  have HB0 : Hid (Below w.heap.size w w0) := grown_below hgrow0 (Nat.le_refl _) (fun k h => by cases h)
  clear hown0 hown0' hgrow0
  go_loopw [3, 4] (fun v i wr => ∃ (ys : List (Sl × Sl)) (zs : List Value), ys.length ≤ N ∧ v = .slice (some ⟨w.heap.size, 0, none⟩) ys.length N ∧ i = .int .i64 ys.length ∧ Hid (wr.ownsRow w.heap.size 32 2 (.slice (some ⟨w.heap.size, 0, none⟩) N N) N zs) ∧ Hid (Fill zs ys) ∧ Hid (Cop wr w.heap.size (xs.take ys.length) ys) ∧ Hid (Below w.heap.size w wr)) (fun v i _ => N - (intOf i).toNat)
  case atStart => exact ⟨[], _, by simp, rfl, rfl, HO, fun j p h => (by simp at h), ⟨rfl, fun p h => (by cases h), fun p h => (by cases h)⟩, HB0⟩
  case round =>
    obtain ⟨ys, zs, hk, rfl, rfl, hown, hfil, HCp, HB⟩ := hrel
    obtain ⟨k, HKL⟩ : ∃ k, Hid (ys.length = k) := ⟨_, rfl⟩
    rw [HKL.out] at hk ⊢
    by_cases hlt : k < N
    · obtain ⟨⟨x, y⟩, hp⟩ : ∃ p, xs[k]? = some p := ⟨xs[k]'(by rw [← HN.out]; exact hlt), by simp⟩
      obtain ⟨b, o, e, c1, c2⟩ := HR.out k _ hp
      subst e
      have hbl : b < w.heap.size := World.block_lt_of_cell? w _ c1
      replace c1 := (HB.out.cell (p := ⟨b, o + k * 2, none⟩) hbl).trans c1
      replace c2 := (HB.out.cell (p := ⟨b, o + k * 2 + 1, none⟩) hbl).trans c2
      simp only at c1 c2
      have hax := HA.out _ (List.mem_of_getElem? hp)
      simp only at hax
      have HX : Hid (SlAt wr x) := hax.1.below HB.out
      have HY : Hid (SlAt wr y) := hax.2.below HB.out
      have hzl : zs.length = N * 2 := hown.out.1
      have hbig : w.heap.size < wr.heap.size := (World.ownsRow.lt hown.out w.heap.size rfl).2
      have HP : Hid (xs[k]? = some (x, y)) := hp
      clear hp hax
      have i1k : (k : Int) < N := by omega
      have hbw : b < wr.heap.size := by omega
      obtain ⟨xa, xn, xc, xl⟩ := x
      obtain ⟨ya, yn, yc, yl⟩ := y
      unfold Sl.v at c1 c2
      simp only at c1 c2
      go_wp2
      go_region_held3 (fun w' => w'.cell? ⟨b, o + k * 2, none⟩ = some (.slice xa xn xc) ∧ w'.cell? ⟨b, o + k * 2 + 1, none⟩ = some (.slice ya yn yc)) (simp [go_sem, *]) (first
        | (go_at_call_of 20 (Value.slice xa xn xc); refine (dup20 ⟨xa, xn, xc, xl⟩ wr.drew HX.out).mono ?_; rintro e w1 ⟨⟨pa, pn, pc, plx⟩, rfl, hcx⟩; have HCX : Hid (Copied wr.drew w1 ⟨xa, xn, xc, xl⟩ ⟨pa, pn, pc, plx⟩) := hcx; have HBX : Hid (Below wr.heap.size wr w1) := (Below.refl wr.heap.size wr).drew.trans hcx.below; have d1 := (hcx.below.cell (p := ⟨b, o + k * 2, none⟩) hbw).trans c1; have d2 := (hcx.below.cell (p := ⟨b, o + k * 2 + 1, none⟩) hbw).trans c2; clear hcx; dsimp only [Sl.v])
        | (go_at_call_of 20 (Value.slice ya yn yc); refine (dup20 ⟨ya, yn, yc, yl⟩ w1 (HY.out.below HBX.out)).mono ?_; rintro e w2 ⟨⟨qa, qn, qc, qlx⟩, rfl, hcy⟩; have HCY : Hid (Copied w1 w2 ⟨ya, yn, yc, yl⟩ ⟨qa, qn, qc, qlx⟩) := hcy; have hz1' : wr.heap.size ≤ w1.heap.size := HBX.out.size; have d3 := (hcy.below.cell (p := ⟨b, o + k * 2, none⟩) (Nat.lt_of_lt_of_le hbw hz1')).trans d1; have d4 := (hcy.below.cell (p := ⟨b, o + k * 2 + 1, none⟩) (Nat.lt_of_lt_of_le hbw hz1')).trans d2; have HB2 : Hid (Below wr.heap.size wr w2) := HBX.out.trans (hcy.below.mono hz1'); have hz2' : wr.heap.size ≤ w2.heap.size := HB2.out.size; have hbw2 : b < w2.heap.size := (by omega); clear hcy; dsimp only [Sl.v])
        | (go_at_call 26; refine (make26 ⟨pa, pn, pc, plx⟩ ⟨qa, qn, qc, qlx⟩ w2).mono ?_; rintro e w3 ⟨rfl, o3, rfl⟩; dsimp only [rv, Sl.v])
        | (refine step_append_in _ (by rfl) (.tmp 14) (.tmp 28) 26 26 (by rfl) w.heap.size 32 i0 Try.underlying26 hi hz1 w.heap.size N k zs (by rfl) (((owns_below hown.out HB2.out (fun k h => by cases h; exact hbig)).alloc _).alloc _) hlt (.slice (some ⟨w2.heap.size + 1, 0, none⟩) 1 1) (.slice pa pn pc) (.slice qa qn qc) (by rfl) (Src.ofSlice _ Try.underlying26 _ 1 1 _ rfl (two_new _ _ _ _ _ (by simp)) (by intro u hu; simp at hu; rcases hu with rfl | rfl <;> rfl)) ?_; intro w5 ho5 hg5; have hs4 : ((w2.alloc o3).alloc (.cells #[.slice pa pn pc, .slice qa qn qc] 32)).heap.size = w2.heap.size + 2 := (by simp); have e1 := (grown_cell hg5 (p := ⟨b, o + k * 2, none⟩) (by rw [hs4]; show b < _; omega) (by simp; omega)); have e2 := (grown_cell hg5 (p := ⟨b, o + k * 2 + 1, none⟩) (by rw [hs4]; show b < _; omega) (by simp; omega)); clear hs4))
      all_goals
        go_wp2
        go_roundw
        case rel =>
          have hg2 : w.heap.size + 1 ≤ w1.heap.size := Nat.le_trans hbig HBX.out.size
          have hc2 : Cop w2 w.heap.size (xs.take k ++ [((⟨xa, xn, xc, xl⟩ : Sl), (⟨ya, yn, yc, yl⟩ : Sl))]) (ys ++ [((⟨pa, pn, pc, plx⟩ : Sl), (⟨qa, qn, qc, qlx⟩ : Sl))]) := by
            have h0 := HCp.out.below HB2.out
            rw [HKL.out] at h0
            exact cop_push h0 (HCX.out.at_.below HCY.out.below) HCY.out.at_ (HCX.out.fresh.mono hbig) (HCY.out.fresh.mono hg2) (Prod.ext HCX.out.l HCY.out.pb)
          have hb4 : Below w2.heap.size w2 ((w2.alloc o3).alloc (.cells #[.slice pa pn pc, .slice qa qn qc] 32)) := ((Below.refl _ _).alloc (Nat.le_refl _) _).alloc (by simp) _
          have hf := fill_push (p := ((⟨pa, pn, pc, plx⟩ : Sl), (⟨qa, qn, qc, qlx⟩ : Sl))) hzl (by rw [HKL.out]; exact hlt) hfil.out
          rw [HKL.out] at hf
          refine ⟨ys ++ [((⟨pa, pn, pc, plx⟩ : Sl), (⟨qa, qn, qc, qlx⟩ : Sl))], _, by simp [HKL.out]; omega, by simp [HKL.out], by simp [HKL.out], ho5, hf, ?_, ?_⟩
          · unfold Hid
            rw [List.length_append, HKL.out]
            rw [show xs.take (k + [((⟨pa, pn, pc, plx⟩ : Sl), (⟨qa, qn, qc, qlx⟩ : Sl))].length) = xs.take k ++ [((⟨xa, xn, xc, xl⟩ : Sl), (⟨ya, yn, yc, yl⟩ : Sl))] from by rw [List.length_singleton, List.take_add_one, HP.out]; rfl]
            exact (hc2.below hb4).kept hg5 (fun k h => by cases h; rfl)
          · have hb5 : Below w.heap.size w ((w2.alloc o3).alloc (.cells #[.slice pa pn pc, .slice qa qn qc] 32)) := (HB.out.trans (HB2.out.mono (by omega))).trans (hb4.mono (by omega))
            exact hb5.grown hg5 (by simp; omega) (fun k h => by cases h; exact Nat.le_refl _)
        case measure => go_light; simp only [intOf]; omega
    · have hkN : k = N := by omega
      have hco := HCp.out
      rw [HKL.out, List.take_of_length_le (by rw [← HN.out]; omega)] at hco
      subst hkN
      go_wp2
      go_ret
      exact ⟨rfl, ys, zs, hown.out, hfil.out, HKL.out, hco, HB.out⟩
end Go.Proofs.Qxb6600979a
