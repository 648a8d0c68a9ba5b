import Derived.Test.Qxb6600979aW4
namespace Go.Proofs.Qxb6600979a
open Go.RowKit
set_option linter.unusedVariables false

theorem Try.info37 : (Try.prog.info? 37).map (fun i => (i.zero, i.size, i.bytes)) = some (some (.agg #[.slice none 0 0, .slice none 0 0]), 2, 48) := by kernel_rfl
theorem Try.info32 : (Try.prog.info? 32).map (fun i => (i.zero, i.size, i.bytes)) = some (some (.agg #[.slice none 0 0, .slice none 0 0]), 2, 48) := by kernel_rfl

theorem Fresh.off {B g : Nat} {s : Sl} (h : Fresh B s) (hg : g < B) : Off g s := fun ad e => by have := h ad e; omega
theorem Fresh.mono {B B' : Nat} {s : Sl} (h : Fresh B s) (hb : B' ≤ B) : Fresh B' s := fun ad e => Nat.le_trans hb (h ad e)

/-- Copies of the ranges, laid behind block g. -/
structure Cop (w : World) (g : Nat) (xs ys : List (Sl × Sl)) : Prop where
  pls : ys.map pl = xs.map pl
  all : AllAt w ys
  fr : ∀ p ∈ ys, Fresh (g + 1) p.1 ∧ Fresh (g + 1) p.2

theorem Cop.kept {w W : World} {g : Nat} {xs ys : List (Sl × Sl)} {row : Option Nat} (h : Cop w g xs ys) (hg : w.grownBy W row) (hr : ∀ k, row = some k → k = g) : Cop W g xs ys :=
  ⟨h.pls, fun p hp => ⟨(h.all p hp).1.kept hg (fun k e => ((h.fr p hp).1).off (by rw [hr k e]; omega)), (h.all p hp).2.kept hg (fun k e => ((h.fr p hp).2).off (by rw [hr k e]; omega))⟩, h.fr⟩
theorem Cop.below {w W : World} {g : Nat} {xs ys : List (Sl × Sl)} (h : Cop w g xs ys) (hb : Below w.heap.size w W) : Cop W g xs ys := ⟨h.pls, h.all.below hb, h.fr⟩

theorem cop_push {w : World} {g : Nat} {xs ys : List (Sl × Sl)} {p : Sl × Sl} {X Y : Sl} (h : Cop w g xs ys) (hx : SlAt w X) (hy : SlAt w Y) (fx : Fresh (g + 1) X) (fy : Fresh (g + 1) Y) (he : pl (X, Y) = pl p) : Cop w g (xs ++ [p]) (ys ++ [(X, Y)]) :=
  ⟨by rw [List.map_append, List.map_append, h.pls]; simp only [List.map_cons, List.map_nil, he], fun q hq => by
    simp only [List.mem_append, List.mem_singleton] at hq
    rcases hq with hq | rfl
    · exact h.all q hq
    · exact ⟨hx, hy⟩, fun q hq => by
    simp only [List.mem_append, List.mem_singleton] at hq
    rcases hq with hq | rfl
    · exact h.fr q hq
    · exact ⟨fx, fy⟩⟩

def DupR (xs : List (Sl × Sl)) (N : Nat) (w w' : World) (e : Ending) : Prop := ∃ a' c' ys, e = .returned (.slice a' N c') ∧ RowR w' a' ys ∧ AllAt w' ys ∧ ys.map pl = xs.map pl ∧ Below w.heap.size w w'

set_option maxHeartbeats 8000000 in
set_option maxRecDepth 8000 in
theorem dups11 (a : Option Addr) (N c : Nat) (xs : List (Sl × Sl)) (w : World) (HN : Hid (N = xs.length)) (hN : N * 48 ≤ 1048576) (hr : RowR w a xs) (ha : AllAt w xs) (hnil : a = none → N = 0) :
    Calls Try.prog 11 #[.slice a N c] w fun e w' => DupR xs N w w' e := by
  cases a with
  | none =>
    have h0 := hnil rfl
    have hx : xs = [] := List.eq_nil_of_length_eq_zero (by rw [← HN.out]; exact h0)
    subst hx
    subst h0
    go_enter Try.func11, Try.ntmps11
    go_wp2
    go_ret
    exact ⟨none, 0, [], rfl, fun k p h => (by simp at h), fun p h => (by cases h), rfl, Below.refl _ _⟩
  | some a =>
    have HR : Hid (RowR w (some a) xs) := hr
    have HA : Hid (AllAt w xs) := ha
    clear hr ha hnil
    obtain ⟨i0, hi, hz0, hz1, hz2⟩ := info_parts Try.info37
    go_enter Try.func11, Try.ntmps11
    go_wp2_with (at_make; refine wpList_make_full _ rfl _ _ 22 rfl w.heap.size 37 i0 _ 2 Try.underlying22 hi hz0 hz1 .i64 .i64 _ _ N rfl rfl rfl rfl (by rw [hz2]; omega) (by unfold maxLen; omega) (Nat.le_refl _) ?_; intro w0 hown0 hgrow0)
    have HO : Hid (w0.ownsRow w.heap.size 37 2 (.slice (some ⟨w.heap.size, 0, none⟩) N N) N _) := hown0
    have HB0 : Hid (Below w.heap.size w w0) := grown_below hgrow0 (Nat.le_refl _) (fun k h => by cases h)
    clear hown0 hgrow0 hi hz0 hz1 hz2
    go_loopw [4] (fun i wr => ∃ (ys : List (Sl × Sl)) (zs : List Value), ys.length ≤ N ∧ i = .int .i64 ys.length ∧ Hid (wr.ownsRow w.heap.size 37 2 (.slice (some ⟨w.heap.size, 0, none⟩) N N) N zs) ∧ Hid (Fill zs ys) ∧ Hid (Cop wr w.heap.size (xs.take ys.length) ys) ∧ Hid (Below w.heap.size w wr)) (fun i _ => N - (intOf i).toNat)
    case atStart => exact ⟨[], _, by simp, rfl, HO, fun j p h => (by simp at h), ⟨rfl, fun p h => (by cases h), fun p h => (by cases h)⟩, HB0⟩
    case round =>
      obtain ⟨ys, zs, hk, rfl, hown, hfil, HCp, HB⟩ := hrel
      obtain ⟨k, HKL⟩ : ∃ k, Hid (ys.length = k) := ⟨_, rfl⟩
      rw [HKL.out] at hk ⊢
      by_cases hlt : k < N
      · obtain ⟨⟨x, y⟩, hp⟩ : ∃ p, xs[k]? = some p := ⟨xs[k]'(by rw [← HN.out]; exact hlt), by simp⟩
        obtain ⟨b, o, e, c1, c2⟩ := HR.out k _ hp
        simp only [Option.some.injEq] at e
        subst e
        have hbl : b < w.heap.size := World.block_lt_of_cell? w _ c1
        replace c1 := (HB.out.cell (p := ⟨b, o + k * 2, none⟩) hbl).trans c1
        replace c2 := (HB.out.cell (p := ⟨b, o + k * 2 + 1, none⟩) hbl).trans c2
        simp only at c1 c2
        have hax := HA.out _ (List.mem_of_getElem? hp)
        simp only at hax
        have HX : Hid (SlAt wr x) := hax.1.below HB.out
        have HY : Hid (SlAt wr y) := hax.2.below HB.out
        have hzl : zs.length = N * 2 := hown.out.1
        obtain ⟨v0, t0⟩ : ∃ v, wr.cell? ⟨w.heap.size, k * 2, none⟩ = some v := ⟨zs[k * 2]'(by omega), by rw [hown.out.cellAt _ (by omega)]; simp⟩
        obtain ⟨v1, t1⟩ : ∃ v, wr.cell? ⟨w.heap.size, k * 2 + 1, none⟩ = some v := ⟨zs[k * 2 + 1]'(by omega), by rw [hown.out.cellAt _ (by omega)]; simp⟩
        have f0 := hown.out.frozenAt (k * 2)
        have f1 := hown.out.frozenAt (k * 2 + 1)
        have hbig : w.heap.size < wr.heap.size := World.block_lt_of_cell? wr _ t0
        have HP : Hid (xs[k]? = some (x, y)) := hp
        clear hp hax
        have i1k : (k : Int) < N := by omega
        have hne : b ≠ w.heap.size := by omega
        have hne' : w.heap.size ≠ b := by omega
        have hbw : b < wr.heap.size := by omega
        obtain ⟨xa, xn, xc, xl⟩ := x
        obtain ⟨ya, yn, yc, yl⟩ := y
        unfold Sl.v at c1 c2
        simp only at c1 c2
        go_wp2
        go_region_held3 (fun w' => w'.cell? ⟨b, o + k * 2, none⟩ = some (.slice xa xn xc) ∧ w'.cell? ⟨b, o + k * 2 + 1, none⟩ = some (.slice ya yn yc)) (simp [go_sem, *]) (first
          | (go_at_call_of 20 (Value.slice xa xn xc); refine (dup20 ⟨xa, xn, xc, xl⟩ wr.drew HX.out).mono ?_; rintro e w1 ⟨⟨pa, pn, pc, plx⟩, rfl, hcx⟩; have HCX : Hid (Copied wr.drew w1 ⟨xa, xn, xc, xl⟩ ⟨pa, pn, pc, plx⟩) := hcx; have HBX : Hid (Below wr.heap.size wr w1) := (Below.refl wr.heap.size wr).drew.trans hcx.below; have d1 := (hcx.below.cell (p := ⟨b, o + k * 2, none⟩) hbw).trans c1; have d2 := (hcx.below.cell (p := ⟨b, o + k * 2 + 1, none⟩) hbw).trans c2; clear hcx; dsimp only [Sl.v])
          | (go_at_call_of 20 (Value.slice ya yn yc); refine (dup20 ⟨ya, yn, yc, yl⟩ w1 (HY.out.below HBX.out)).mono ?_; rintro e w2 ⟨⟨qa, qn, qc, qlx⟩, rfl, hcy⟩; have HCY : Hid (Copied w1 w2 ⟨ya, yn, yc, yl⟩ ⟨qa, qn, qc, qlx⟩) := hcy; have hz1 : wr.heap.size ≤ w1.heap.size := HCX.out.below.size; have d3 := (hcy.below.cell (p := ⟨b, o + k * 2, none⟩) (Nat.lt_of_lt_of_le hbw hz1)).trans d1; have d4 := (hcy.below.cell (p := ⟨b, o + k * 2 + 1, none⟩) (Nat.lt_of_lt_of_le hbw hz1)).trans d2; have HB2 : Hid (Below wr.heap.size wr w2) := HBX.out.trans (hcy.below.mono hz1); have t0b := (HB2.out.cell (p := ⟨w.heap.size, k * 2, none⟩) hbig).trans t0; have t1b := (HB2.out.cell (p := ⟨w.heap.size, k * 2 + 1, none⟩) hbig).trans t1; have f0b := (HB2.out.frozen (p := ⟨w.heap.size, k * 2, none⟩) hbig).trans f0; have f1b := (HB2.out.frozen (p := ⟨w.heap.size, k * 2 + 1, none⟩) hbig).trans f1; clear hcy; dsimp only [Sl.v]))
        all_goals
          go_wp2
          go_roundw
          case rel =>
            have hg2 : w.heap.size + 1 ≤ w1.heap.size := Nat.le_trans hbig HBX.out.size
            have hc2 : Cop w2 w.heap.size (xs.take k ++ [((⟨xa, xn, xc, xl⟩ : Sl), (⟨ya, yn, yc, yl⟩ : Sl))]) (ys ++ [((⟨pa, pn, pc, plx⟩ : Sl), (⟨qa, qn, qc, qlx⟩ : Sl))]) := by
              have h0 := HCp.out.below HB2.out
              rw [HKL.out] at h0
              exact cop_push h0 (HCX.out.at_.below HCY.out.below) HCY.out.at_ (HCX.out.fresh.mono hbig) (HCY.out.fresh.mono hg2) (Prod.ext HCX.out.l HCY.out.pb)
            have ho2 : w2.ownsRow w.heap.size 37 2 (.slice (some ⟨w.heap.size, 0, none⟩) N N) N zs := owns_below hown.out HB2.out (fun k h => by cases h; exact hbig)
            obtain ⟨o3, g3⟩ := ho2.stored (k * 2) (Value.slice pa pn pc)
            obtain ⟨o4, g4⟩ := o3.stored (k * 2 + 1) (Value.slice qa qn qc)
            have hf := fill_push (p := ((⟨pa, pn, pc, plx⟩ : Sl), (⟨qa, qn, qc, qlx⟩ : Sl))) hzl (by rw [HKL.out]; exact hlt) hfil.out
            rw [HKL.out] at hf
            refine ⟨ys ++ [((⟨pa, pn, pc, plx⟩ : Sl), (⟨qa, qn, qc, qlx⟩ : Sl))], _, by simp [HKL.out]; omega, by simp [HKL.out], o4, hf, ?_, ?_⟩
            · unfold Hid
              rw [List.length_append, HKL.out]
              rw [show xs.take (k + [((⟨pa, pn, pc, plx⟩ : Sl), (⟨qa, qn, qc, qlx⟩ : Sl))].length) = xs.take k ++ [((⟨xa, xn, xc, xl⟩ : Sl), (⟨ya, yn, yc, yl⟩ : Sl))] from by rw [List.length_singleton, List.take_add_one, HP.out]; rfl]
              exact (hc2.kept g3 (fun k h => by cases h; rfl)).kept g4 (fun k h => by cases h; rfl)
            · exact ((HB.out.trans (HB2.out.mono (by omega))).setCell (Nat.le_refl _) _).setCell (Nat.le_refl _) _
          case measure => go_light; simp only [intOf]; omega
      · have hkN : k = N := by omega
        have hco := HCp.out
        rw [HKL.out, List.take_of_length_le (by rw [← HN.out]; omega)] at hco
        go_wp2
        go_ret
        exact ⟨_, _, ys, rfl, fill_row hown.out hfil.out (by rw [HKL.out]; omega), hco.all, hco.pls, HB.out⟩
end Go.Proofs.Qxb6600979a
