import Derived.Test.Qxb6603994aE
namespace Go.Proofs.Qxb6603994a
open Go.RowKit
set_option linter.unusedVariables false

set_option maxHeartbeats 4000000 in
set_option maxRecDepth 8000 in
theorem law3 (a : Option Addr) (N cap : Nat) (bs : List Bx) (s : ByteArray) (w : World) (HN : Hid (N = bs.length)) (hn : N ≤ maxLen) (hs : s.size ≤ maxLen) (hc : BxAt w a bs) (hr : ∀ b ∈ bs, InR b) :
    Calls Try.prog 3 #[.slice a N cap, .string s] w fun e w' => e = .returned (.bool true) ∧ Below w.heap.size w w' := by
  have HC : Hid (BxAt w a bs) := hc
  have HR : Hid (∀ b ∈ bs, InR b) := hr
  clear hc hr
  have hn' := hn
  have hs' := hs
  unfold maxLen at hn' hs'
  go_enter Try.func3, Try.ntmps3
  go_wp2_with fail
  refine (bytes7 a N cap s _ hn hs).mono ?_
  rintro e w' ⟨⟨r, rfl⟩, hw⟩
  rw [hw]
  clear hw
  cases r
  · go_wp2
    go_ret
    exact ⟨rfl, Below.refl _ _⟩
  rcases Nat.lt_or_ge 1048576 N with hb1 | hb1
  · have i1 : (1048576 : Int) < N := by omega
    go_wp2
    go_ret
    exact ⟨rfl, Below.refl _ _⟩
  rcases Nat.lt_or_ge 1048576 s.size with hb2 | hb2
  · have i1 : ¬ (1048576 : Int) < N := by omega
    have i2 : (1048576 : Int) < s.size := by omega
    go_wp2
    go_ret
    exact ⟨rfl, Below.refl _ _⟩
  have i1 : ¬ (1048576 : Int) < N := by omega
  have i2 : ¬ (1048576 : Int) < s.size := by omega
  go_wp2_with fail
  · go_ret
    exact ⟨rfl, Below.refl _ _⟩
  refine (toboxes9 a N cap bs w HN (by omega) HC.out).mono ?_
  rintro e w1 ⟨rfl, hA, hB1⟩
  have HA : Hid (BxAt w1 (some ⟨w.heap.size, 0, none⟩) bs) := hA
  have HB1 : Hid (Below w.heap.size w w1) := hB1
  clear hA hB1
  go_wp2_with fail
  refine (zzfind8 _ N N bs s w1 HN (by omega) HA.out HR.out hb2).mono ?_
  rintro e w2 ⟨rfl, hB2⟩
  have hz1 : w.heap.size ≤ w1.heap.size := HB1.out.size
  have HB2 : Hid (Below w.heap.size w w2) := HB1.out.trans (hB2.mono hz1)
  clear hB2
  obtain ⟨⟨x0, x1, x2, x3, x4, x5, x6⟩, hx⟩ : ∃ b, b = (bs.find? (isB s)).getD bx0 := ⟨_, rfl⟩
  obtain ⟨bv, hbv⟩ : ∃ b, b = (bs.find? (isB s)).isSome := ⟨_, rfl⟩
  rw [← hx, ← hbv]
  have HX : Hid (⟨x0, x1, x2, x3, x4, x5, x6⟩ = (bs.find? (isB s)).getD bx0) := hx
  have HV : Hid (bv = (bs.find? (isB s)).isSome) := hbv
  clear hx hbv
  unfold bxv
  go_wp2_with fail
  obtain ⟨w3, hw3⟩ : ∃ w3, w3 = w2.alloc (Obj.cells #[.int .u8 x0, .int .u8 x1, .int .u8 x2, .int .u8 x3, .int .i64 x4, .int .i64 x5, .int .i64 x6] 27) := ⟨_, rfl⟩
  obtain ⟨gg, HGG⟩ : ∃ gg, Hid (gg = w2.heap.size) := ⟨_, rfl⟩
  have hz2 : w.heap.size ≤ w2.heap.size := HB2.out.size
  have HB3 : Hid (Below w.heap.size w w3) := by rw [hw3]; exact HB2.out.alloc hz2 _
  have HG3 : Hid (BxIs w3 gg 0 ⟨x0, x1, x2, x3, x4, x5, x6⟩) := by
    rw [hw3, HGG.out]
    refine ⟨?_, ?_, ?_, ?_, ?_, ?_, ?_⟩ <;> simp [go_sem]
  have hgg : w.heap.size ≤ gg := by rw [HGG.out]; exact hz2
  rw [← hw3, ← HGG.out]
  clear hw3
  refine (make10 0 0 0 0 0 0 0 w3).mono ?_
  rintro e w4 ⟨rfl, o1, o2, hw4⟩
  have hg3 : gg < w3.heap.size := World.block_lt_of_cell? w3 _ HG3.out.1
  have HB4' : Hid (Below w3.heap.size w3 w4) := by rw [hw4]; exact ((Below.refl _ _).alloc (Nat.le_refl _) _).alloc (by simp) _
  have HB4 : Hid (Below w.heap.size w w4) := HB3.out.trans (HB4'.out.mono (by omega))
  have HG4 : Hid (BxIs w4 gg 0 ⟨x0, x1, x2, x3, x4, x5, x6⟩) := HG3.out.below HB4'.out hg3
  clear hw4 o1 o2
  go_wp2_with fail
  obtain ⟨w5, hw5⟩ : ∃ w5, w5 = w4.alloc (Obj.cells #[.int .u8 0, .int .u8 0, .int .u8 0, .int .u8 0, .int .i64 0, .int .i64 0, .int .i64 0] 27) := ⟨_, rfl⟩
  obtain ⟨gw, HGW⟩ : ∃ gw, Hid (gw = w4.heap.size) := ⟨_, rfl⟩
  have hz4 : w.heap.size ≤ w4.heap.size := HB4.out.size
  have hg4 : gg < w4.heap.size := World.block_lt_of_cell? w4 _ HG4.out.1
  have HB5 : Hid (Below w.heap.size w w5) := by rw [hw5]; exact HB4.out.alloc hz4 _
  have HG5 : Hid (BxIs w5 gg 0 ⟨x0, x1, x2, x3, x4, x5, x6⟩) := by rw [hw5]; exact HG4.out.below ((Below.refl _ _).alloc (Nat.le_refl _) _) hg4
  have HW5 : Hid (BxIs w5 gw 0 bx0) := by
    rw [hw5, HGW.out]
    unfold bx0
    refine ⟨?_, ?_, ?_, ?_, ?_, ?_, ?_⟩ <;> simp [go_sem]
  have HF5 : Hid (∀ j, j < 7 → w5.frozen? ⟨gw, j, none⟩ = false) := by
    rw [hw5, HGW.out]
    intro j hj
    simp [go_sem]
  have hgw : gg < gw := by rw [HGW.out]; exact hg4
  rw [← hw5, ← HGW.out]
  clear hw5 HB1 HB2 HB3 HB4 HB4' HG3 HG4 hz1 hz2 hz4 hg3 hg4
  go_loopg [8, 9] N (fun q vf vj wr => q ≤ N ∧ vj = .int .i64 ((q : Int) - 1) ∧ vf = .bool ((bs.drop q).find? (isB s)).isSome ∧ Hid (BxIs wr gw 0 (((bs.drop q).find? (isB s)).getD bx0)) ∧ Hid (∀ j, j < 7 → wr.frozen? ⟨gw, j, none⟩ = false) ∧ Hid (BxIs wr gg 0 ⟨x0, x1, x2, x3, x4, x5, x6⟩) ∧ Hid (Below w.heap.size w wr))
  case atStart =>
    rw [List.drop_eq_nil_of_le (by rw [← HN.out]; exact Nat.le_refl _)]
    exact ⟨by omega, rfl, rfl, HW5, HF5, HG5, HB5⟩
  case round =>
    obtain ⟨hq, rfl, rfl, HWr, HFr, HGr, HBr⟩ := hrel
    obtain ⟨q, rfl⟩ : ∃ q', q' = gk := ⟨_, rfl⟩
    by_cases h0 : q = 0
    · subst h0
      simp only [List.drop_zero] at HWr ⊢
      rw [← HX.out] at HWr
      rw [← HV.out]
      obtain ⟨a0, a1, a2, a3, a4, a5, a6⟩ := HWr.out
      obtain ⟨c0, c1, c2, c3, c4, c5, c6⟩ := HGr.out
      simp only [Nat.zero_add] at a0 a1 a2 a3 a4 a5 a6 c0 c1 c2 c3 c4 c5 c6
      have heq := eq25 x0 x1 x2 x3 wr
      cases bv
      · go_wp2
        go_ret
        exact ⟨rfl, HBr.out⟩
      · go_wp2
        go_ret
        exact ⟨rfl, HBr.out⟩
    · obtain ⟨p, hp⟩ : ∃ p, q = p + 1 := ⟨q - 1, by omega⟩
      subst hp
      obtain ⟨c, hck⟩ : ∃ c, bs[p]? = some c := ⟨bs[p]'(by rw [← HN.out]; omega), by simp⟩
      obtain ⟨b, o, rfl, qq⟩ := HC.out p c hck
      have hbl : b < w.heap.size := World.block_lt_of_cell? w _ qq.1
      have qr := qq.below HBr.out hbl
      have HK : Hid (bs.drop p = c :: bs.drop (p + 1)) := by
        have hl : p < bs.length := by rw [← HN.out]; omega
        have e : bs[p]'hl = c := by rw [List.getElem?_eq_getElem hl] at hck; simpa using hck
        rw [← e]; exact List.drop_eq_getElem_cons hl
      clear hck qq
      obtain ⟨y0, y1, y2, y3, y4, y5, y6⟩ := c
      obtain ⟨g0, g1, g2, g3, g4, g5, g6⟩ := qr
      simp only at g0 g1 g2 g3 g4 g5 g6
      have ip : ((p : Int) + 1 - 1) = p := by omega
      have ip1 : (p : Int) < N := by omega
      have HI : Hid (isB s ⟨y0, y1, y2, y3, y4, y5, y6⟩ = isT y0 y1 y2 y3 s) := rfl
      go_wp2_with fail
      refine (type11 y0 y1 y2 y3 s wr hb2).mono ?_
      rintro e wt ⟨rfl, hBt⟩
      have hzr : w.heap.size ≤ wr.heap.size := HBr.out.size
      have HBt : Hid (Below w.heap.size w wt) := HBr.out.trans (hBt.mono hzr)
      have hgr : gg < wr.heap.size := World.block_lt_of_cell? wr _ HGr.out.1
      have hwr : gw < wr.heap.size := World.block_lt_of_cell? wr _ HWr.out.1
      have HGt : Hid (BxIs wt gg 0 ⟨x0, x1, x2, x3, x4, x5, x6⟩) := HGr.out.below hBt hgr
      have HWt : Hid (BxIs wt gw 0 (((bs.drop (p + 1)).find? (isB s)).getD bx0)) := HWr.out.below hBt hwr
      have HFt : Hid (∀ j, j < 7 → wt.frozen? ⟨gw, j, none⟩ = false) := fun j hj => (hBt.frozen (p := ⟨gw, j, none⟩) hwr).trans (HFr.out j hj)
      have hb' : b < wr.heap.size := by omega
      replace g0 := (hBt.cell (p := ⟨b, o + p * 7, none⟩) hb').trans g0
      replace g1 := (hBt.cell (p := ⟨b, o + p * 7 + 1, none⟩) hb').trans g1
      replace g2 := (hBt.cell (p := ⟨b, o + p * 7 + 2, none⟩) hb').trans g2
      replace g3 := (hBt.cell (p := ⟨b, o + p * 7 + 3, none⟩) hb').trans g3
      replace g4 := (hBt.cell (p := ⟨b, o + p * 7 + 4, none⟩) hb').trans g4
      replace g5 := (hBt.cell (p := ⟨b, o + p * 7 + 5, none⟩) hb').trans g5
      replace g6 := (hBt.cell (p := ⟨b, o + p * 7 + 6, none⟩) hb').trans g6
      clear hBt HGr HWr HFr
      obtain ⟨bt, hbt⟩ : ∃ bt, bt = isT y0 y1 y2 y3 s := ⟨_, rfl⟩
      rw [← hbt]
      have HBT : Hid (bt = isB s ⟨y0, y1, y2, y3, y4, y5, y6⟩) := hbt
      clear hbt HI
      cases bt
      · have HD : Hid ((bs.drop p).find? (isB s) = (bs.drop (p + 1)).find? (isB s)) := by
          unfold Hid
          rw [HK.out, List.find?_cons, ← HBT.out]
        go_wp2
        go_roundg p
        case measure => omega
        case rel => exact ⟨by omega, by go_num, by rw [HD.out], by unfold Hid; rw [HD.out]; exact HWt.out, HFt, HGt, HBt⟩
      · have HD : Hid ((bs.drop p).find? (isB s) = some ⟨y0, y1, y2, y3, y4, y5, y6⟩) := by
          unfold Hid
          rw [HK.out, List.find?_cons, ← HBT.out]
        obtain ⟨a0, a1, a2, a3, a4, a5, a6⟩ := HWt.out
        simp only [Nat.zero_add] at a0 a1 a2 a3 a4 a5 a6
        have f0 := HFt.out 0 (by omega)
        have f1 := HFt.out 1 (by omega)
        have f2 := HFt.out 2 (by omega)
        have f3 := HFt.out 3 (by omega)
        have f4 := HFt.out 4 (by omega)
        have f5 := HFt.out 5 (by omega)
        have f6 := HFt.out 6 (by omega)
        have hne : b ≠ gw := by omega
        have hne' : gw ≠ b := by omega
        have hzt : w.heap.size ≤ wt.heap.size := HBt.out.size
        have hbt' : b < wt.heap.size := by omega
        have hgt' : gg < wt.heap.size := World.block_lt_of_cell? wt _ HGt.out.1
        have hwt' : gw < wt.heap.size := World.block_lt_of_cell? wt _ a0
        go_wp2
        go_region_held3 (fun w' => w'.cell? ⟨b, o + p * 7, none⟩ = some (.int .u8 y0) ∧ w'.cell? ⟨b, o + p * 7 + 1, none⟩ = some (.int .u8 y1) ∧ w'.cell? ⟨b, o + p * 7 + 2, none⟩ = some (.int .u8 y2) ∧ w'.cell? ⟨b, o + p * 7 + 3, none⟩ = some (.int .u8 y3) ∧ w'.cell? ⟨b, o + p * 7 + 4, none⟩ = some (.int .i64 y4) ∧ w'.cell? ⟨b, o + p * 7 + 5, none⟩ = some (.int .i64 y5) ∧ w'.cell? ⟨b, o + p * 7 + 6, none⟩ = some (.int .i64 y6)) (simp [go_sem, World.cell?_alloc_past, *]) (first | (go_at_call 10; refine (make10 y0 y1 y2 y3 y4 y5 y6 _).mono ?_; rintro e w' ⟨rfl, o1, o2, rfl⟩))
        all_goals
          go_wp2
          go_roundg p
          case measure => omega
          case rel =>
            have HB7 := ((((((((HBt.out.setCell (p := ⟨gw, 0, none⟩) (by simp only; omega) (.int .u8 y0)).setCell (p := ⟨gw, 1, none⟩) (by simp only; omega) (.int .u8 y1)).setCell (p := ⟨gw, 2, none⟩) (by simp only; omega) (.int .u8 y2)).setCell (p := ⟨gw, 3, none⟩) (by simp only; omega) (.int .u8 y3)).setCell (p := ⟨gw, 4, none⟩) (by simp only; omega) (.int .i64 y4)).setCell (p := ⟨gw, 5, none⟩) (by simp only; omega) (.int .i64 y5)).setCell (p := ⟨gw, 6, none⟩) (by simp only; omega) (.int .i64 y6)))
            have HB8 := (HB7.alloc HB7.size o1)
            obtain ⟨c0, c1, c2, c3, c4, c5, c6⟩ := HGt.out
            simp only [Nat.zero_add] at c0 c1 c2 c3 c4 c5 c6
            have hd1 : gg ≠ gw := by omega
            have hd2 : gw ≠ gg := by omega
            refine ⟨by omega, by go_num, by rw [HD.out]; rfl, ?_, ?_, ?_, (HB8.alloc HB8.size o2).drew⟩
            · unfold Hid
              rw [HD.out]
              refine ⟨?_, ?_, ?_, ?_, ?_, ?_, ?_⟩ <;> simp [go_sem, World.cell?_alloc_past, *]
            · intro j hj
              have : j = 0 ∨ j = 1 ∨ j = 2 ∨ j = 3 ∨ j = 4 ∨ j = 5 ∨ j = 6 := by omega
              rcases this with rfl | rfl | rfl | rfl | rfl | rfl | rfl <;> simp [go_sem, World.frozen?_alloc_past, *]
            · refine ⟨?_, ?_, ?_, ?_, ?_, ?_, ?_⟩ <;> simp [go_sem, World.cell?_alloc_past, *]
end Go.Proofs.Qxb6603994a
