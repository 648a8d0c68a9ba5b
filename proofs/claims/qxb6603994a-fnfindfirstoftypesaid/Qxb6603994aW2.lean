import Derived.Test.Qxb6603994aW1
namespace Go.Proofs.Qxb6603994a
open Go.RowKit
set_option linter.unusedVariables false

structure Bx where
  t0 : Int
  t1 : Int
  t2 : Int
  t3 : Int
  st : Int
  bo : Int
  en : Int

def BxIs (w : World) (g o : Nat) (b : Bx) : Prop :=
  w.cell? ⟨g, o, none⟩ = some (.int .u8 b.t0) ∧ w.cell? ⟨g, o + 1, none⟩ = some (.int .u8 b.t1) ∧ w.cell? ⟨g, o + 2, none⟩ = some (.int .u8 b.t2) ∧ w.cell? ⟨g, o + 3, none⟩ = some (.int .u8 b.t3) ∧
  w.cell? ⟨g, o + 4, none⟩ = some (.int .i64 b.st) ∧ w.cell? ⟨g, o + 5, none⟩ = some (.int .i64 b.bo) ∧ w.cell? ⟨g, o + 6, none⟩ = some (.int .i64 b.en)

def BxAt (w : World) (a : Option Addr) (bs : List Bx) : Prop := ∀ k b, bs[k]? = some b → ∃ g o, a = some ⟨g, o, none⟩ ∧ BxIs w g (o + k * 7) b

theorem BxIs.below {w W : World} {g o : Nat} {b : Bx} {B : Nat} (h : BxIs w g o b) (hb : Below B w W) (hg : g < B) : BxIs W g o b := by
  obtain ⟨h0, h1, h2, h3, h4, h5, h6⟩ := h
  exact ⟨(hb.cell (p := ⟨g, _, none⟩) hg).trans h0, (hb.cell (p := ⟨g, _, none⟩) hg).trans h1, (hb.cell (p := ⟨g, _, none⟩) hg).trans h2, (hb.cell (p := ⟨g, _, none⟩) hg).trans h3, (hb.cell (p := ⟨g, _, none⟩) hg).trans h4, (hb.cell (p := ⟨g, _, none⟩) hg).trans h5, (hb.cell (p := ⟨g, _, none⟩) hg).trans h6⟩
theorem BxAt.below {w W : World} {a : Option Addr} {bs : List Bx} (h : BxAt w a bs) (hb : Below w.heap.size w W) : BxAt W a bs := fun k b hk => by
  obtain ⟨g, o, e, q⟩ := h k b hk
  exact ⟨g, o, e, q.below hb (World.block_lt_of_cell? w _ q.1)⟩

/-- Of the row xs the first k groups of seven are the boxes. -/
def Filled (xs : List Value) (bs : List Bx) (k : Nat) : Prop := ∀ j b, j < k → bs[j]? = some b → xs[j * 7]? = some (.int .u8 b.t0) ∧ xs[j * 7 + 1]? = some (.int .u8 b.t1) ∧ xs[j * 7 + 2]? = some (.int .u8 b.t2) ∧ xs[j * 7 + 3]? = some (.int .u8 b.t3) ∧
  xs[j * 7 + 4]? = some (.int .i64 b.st) ∧ xs[j * 7 + 5]? = some (.int .i64 b.bo) ∧ xs[j * 7 + 6]? = some (.int .i64 b.en)

def put7 (xs : List Value) (k : Nat) (b : Bx) : List Value :=
  ((((((xs.set (k * 7) (.int .u8 b.t0)).set (k * 7 + 1) (.int .u8 b.t1)).set (k * 7 + 2) (.int .u8 b.t2)).set (k * 7 + 3) (.int .u8 b.t3)).set (k * 7 + 4) (.int .i64 b.st)).set (k * 7 + 5) (.int .i64 b.bo)).set (k * 7 + 6) (.int .i64 b.en)

theorem filled_step {xs : List Value} {bs : List Bx} {k N : Nat} {b : Bx} (hl : xs.length = N * 7) (hk : k < N) (hbk : bs[k]? = some b) (h : Filled xs bs k) : Filled (put7 xs k b) bs (k + 1) := by
  intro j d hj hd
  unfold put7
  by_cases hjk : j = k
  · subst hjk
    rw [hbk] at hd
    cases hd
    simp only [List.getElem?_set, List.length_set]
    refine ⟨?_, ?_, ?_, ?_, ?_, ?_, ?_⟩
    all_goals repeat (first | rw [if_pos trivial] | rw [if_neg (by omega)] | rw [if_pos (by omega)])
  · have := h j d (by omega) hd
    simp only [List.getElem?_set, List.length_set]
    obtain ⟨a0, a1, a2, a3, a4, a5, a6⟩ := this
    refine ⟨?_, ?_, ?_, ?_, ?_, ?_, ?_⟩
    all_goals rw [if_neg (by omega), if_neg (by omega), if_neg (by omega), if_neg (by omega), if_neg (by omega), if_neg (by omega), if_neg (by omega)]; assumption

theorem filled_at {w : World} {B g e N cap : Nat} {xs : List Value} {bs : List Bx} (h : w.ownsRow B e 7 (.slice (some ⟨g, 0, none⟩) N cap) N xs) (hf : Filled xs bs N) (hN : bs.length = N) : BxAt w (some ⟨g, 0, none⟩) bs := by
  intro k b hk
  have hlt : k < bs.length := by
    rcases Nat.lt_or_ge k bs.length with h | h
    · exact h
    · rw [List.getElem?_eq_none h] at hk; cases hk
  obtain ⟨a0, a1, a2, a3, a4, a5, a6⟩ := hf k b (by omega) hk
  refine ⟨g, 0, rfl, ?_, ?_, ?_, ?_, ?_, ?_, ?_⟩
  all_goals rw [Nat.zero_add, h.cellAt _ (by omega)]; assumption

set_option maxHeartbeats 4000000 in
set_option maxRecDepth 8000 in
theorem toboxes9 (a : Option Addr) (N cap : Nat) (bs : List Bx) (w : World) (HN : Hid (N = bs.length)) (hn : N ≤ 1048576) (hc : BxAt w a bs) :
    Calls Try.prog 9 #[.slice a N cap] w fun e w' => e = .returned (.slice (some ⟨w.heap.size, 0, none⟩) N N) ∧ BxAt w' (some ⟨w.heap.size, 0, none⟩) bs ∧ Below w.heap.size w w' := by
  have HC : Hid (BxAt w a bs) := hc
  clear hc
  obtain ⟨i0, hi, hz0, hz1, hz2⟩ := info_parts Try.info27
  go_enter Try.func9, Try.ntmps9
  go_wp2_with (at_make; refine wpList_make_full _ rfl _ _ 30 rfl w.heap.size 27 i0 _ 7 Try.underlying30 hi hz0 hz1 .i64 .i64 _ _ N rfl rfl rfl rfl (by rw [hz2]; omega) (by unfold maxLen; omega) (Nat.le_refl _) ?_; intro w0 hown0 hgrow0)
  have HO : Hid (w0.ownsRow w.heap.size 27 7 (.slice (some ⟨w.heap.size, 0, none⟩) N N) N _) := hown0
  have HB0 : Hid (Below w.heap.size w w0) := grown_below hgrow0 (Nat.le_refl _) (fun k h => by cases h)
  clear hown0 hgrow0 hi hz0 hz1 hz2
  go_loopw [4] (fun i wr => ∃ (k : Nat) (xs : List Value), k ≤ N ∧ i = .int .i64 k ∧ Hid (wr.ownsRow w.heap.size 27 7 (.slice (some ⟨w.heap.size, 0, none⟩) N N) N xs) ∧ Hid (Filled xs bs k) ∧ Hid (Below w.heap.size w wr)) (fun i _ => N - (intOf i).toNat)
  case atStart => exact ⟨0, _, by omega, rfl, HO, fun j c h => (by omega), HB0⟩
  case round =>
    obtain ⟨k, xs, hk, rfl, hown, hfil, HB⟩ := hrel
    by_cases hlt : k < N
    · obtain ⟨c, hck⟩ : ∃ c, bs[k]? = some c := ⟨bs[k]'(by rw [← HN.out]; exact hlt), by simp⟩
      obtain ⟨b, o, rfl, q⟩ := HC.out k c hck
      have hbl : b < w.heap.size := World.block_lt_of_cell? w _ q.1
      obtain ⟨g0, g1, g2, g3, g4, g5, g6⟩ := q.below HB.out hbl
      have hxl : xs.length = N * 7 := hown.out.1
      have there : ∀ t, t < 7 → ∃ v, wr.cell? ⟨w.heap.size, k * 7 + t, none⟩ = some v := fun t ht => ⟨xs[k * 7 + t]'(by omega), by rw [hown.out.cellAt _ (by omega)]; simp⟩
      obtain ⟨v0, t0⟩ := there 0 (by omega)
      obtain ⟨v1, t1⟩ := there 1 (by omega)
      obtain ⟨v2, t2⟩ := there 2 (by omega)
      obtain ⟨v3, t3⟩ := there 3 (by omega)
      obtain ⟨v4, t4⟩ := there 4 (by omega)
      obtain ⟨v5, t5⟩ := there 5 (by omega)
      obtain ⟨v6, t6⟩ := there 6 (by omega)
      have f0 := hown.out.frozenAt (k * 7)
      have f1 := hown.out.frozenAt (k * 7 + 1)
      have f2 := hown.out.frozenAt (k * 7 + 2)
      have f3 := hown.out.frozenAt (k * 7 + 3)
      have f4 := hown.out.frozenAt (k * 7 + 4)
      have f5 := hown.out.frozenAt (k * 7 + 5)
      have f6 := hown.out.frozenAt (k * 7 + 6)
      have hbig : w.heap.size < wr.heap.size := World.block_lt_of_cell? wr _ t0
      have HK : Hid (bs[k]? = some c) := hck
      clear hck q there
      obtain ⟨x0, x1, x2, x3, x4, x5, x6⟩ := c
      simp only [Nat.add_zero] at g0 t0
      simp only at g0 g1 g2 g3 g4 g5 g6
      have i1k : (k : Int) < N := by omega
      have hne : b ≠ w.heap.size := by omega
      have hne' : w.heap.size ≠ b := by omega
      have hbw : b < wr.heap.size := by omega
      go_wp2
      go_region_held3 (fun w' => w'.cell? ⟨b, o + k * 7, none⟩ = some (.int .u8 x0) ∧ w'.cell? ⟨b, o + k * 7 + 1, none⟩ = some (.int .u8 x1) ∧ w'.cell? ⟨b, o + k * 7 + 2, none⟩ = some (.int .u8 x2) ∧ w'.cell? ⟨b, o + k * 7 + 3, none⟩ = some (.int .u8 x3) ∧ w'.cell? ⟨b, o + k * 7 + 4, none⟩ = some (.int .i64 x4) ∧ w'.cell? ⟨b, o + k * 7 + 5, none⟩ = some (.int .i64 x5) ∧ w'.cell? ⟨b, o + k * 7 + 6, none⟩ = some (.int .i64 x6)) (simp [go_sem, World.cell?_alloc_past, *]) (first | (go_at_call 10; refine (make10 x0 x1 x2 x3 x4 x5 x6 _).mono ?_; rintro e w' ⟨rfl, o1, o2, rfl⟩))
      all_goals
        go_wp2
        go_roundw
        case rel =>
          have HB7 := ((((((((HB.out.setCell (p := ⟨w.heap.size, k * 7, none⟩) (Nat.le_refl _) (.int .u8 x0)).setCell (p := ⟨w.heap.size, k * 7 + 1, none⟩) (Nat.le_refl _) (.int .u8 x1)).setCell (p := ⟨w.heap.size, k * 7 + 2, none⟩) (Nat.le_refl _) (.int .u8 x2)).setCell (p := ⟨w.heap.size, k * 7 + 3, none⟩) (Nat.le_refl _) (.int .u8 x3)).setCell (p := ⟨w.heap.size, k * 7 + 4, none⟩) (Nat.le_refl _) (.int .i64 x4)).setCell (p := ⟨w.heap.size, k * 7 + 5, none⟩) (Nat.le_refl _) (.int .i64 x5)).setCell (p := ⟨w.heap.size, k * 7 + 6, none⟩) (Nat.le_refl _) (.int .i64 x6)))
          have HB8 := (HB7.alloc HB7.size o1)
          exact ⟨k + 1, put7 xs k ⟨x0, x1, x2, x3, x4, x5, x6⟩, by omega, by go_num, (((((((((hown.out.stored _ _).1.stored _ _).1.stored _ _).1.stored _ _).1.stored _ _).1.stored _ _).1.stored _ _).1.alloc _).alloc _).drew, filled_step hxl hlt HK.out hfil.out, (HB8.alloc HB8.size o2).drew⟩
        case measure => go_light; simp only [intOf]; omega
    · have hkN : k = N := by omega
      go_wp2
      go_ret
      exact ⟨rfl, filled_at hown.out (hkN ▸ hfil.out) HN.out.symm, HB.out⟩
end Go.Proofs.Qxb6603994a
