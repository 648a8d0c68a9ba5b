import Derived.Test.Qxb6602907aW10
import Derived.Test.Qxb6602907aM1
import Derived.Test.Qxb6602907aN10
import Derived.Test.Qxb6602907aPM
namespace Go.Proofs.Qxb6602907a
open Go.RowKit
set_option linter.unusedVariables false

set_option maxHeartbeats 4000000 in
set_option maxRecDepth 8000 in
theorem model3 (s1 s2 : ByteArray) (a1 a2 a3 : Option Addr) (n1 c1 n2 c2 N cap : Nat) (z1 z2 : List Int) (cs : List Ch) (w : World)
    (hs1 : s1.size ≤ maxLen) (hs2 : s2.size ≤ maxLen) (hn1 : n1 ≤ maxLen) (hn2 : n2 ≤ maxLen) (hN : N ≤ maxLen)
    (HZ1 : Hid (z1.length = n1)) (HZ2 : Hid (z2.length = n2)) (HN : Hid (N = cs.length))
    (h1 : 0 < n1 → ∃ b o, a1 = some ⟨b, o, none⟩ ∧ I32At w b o z1) (h2 : 0 < n2 → ∃ b o, a2 = some ⟨b, o, none⟩ ∧ I32At w b o z2)
    (hw1 : ∀ i, -2147483648 ≤ z1.getD i 0 ∧ z1.getD i 0 ≤ 2147483647) (hw2 : ∀ i, -2147483648 ≤ z2.getD i 0 ∧ z2.getD i 0 ≤ 2147483647) (hc : ChAt w a3 cs) :
    Calls Try.prog 3 #[.string s1, .slice a1 n1 c1, .string s2, .slice a2 n2 c2, .slice a3 N cap] w fun e w' =>
      e = .returned (.bool true) ∧ Below w.heap.size w w' := by
  have HW1 : Hid (∀ i, -2147483648 ≤ z1.getD i 0 ∧ z1.getD i 0 ≤ 2147483647) := hw1
  have HW2 : Hid (∀ i, -2147483648 ≤ z2.getD i 0 ∧ z2.getD i 0 ≤ 2147483647) := hw2
  have HA1 : Hid (0 < n1 → ∃ b o, a1 = some ⟨b, o, none⟩ ∧ I32At w b o z1) := h1
  have HA2 : Hid (0 < n2 → ∃ b o, a2 = some ⟨b, o, none⟩ ∧ I32At w b o z2) := h2
  have HC : Hid (ChAt w a3 cs) := hc
  clear hw1 hw2 h1 h2 hc
  have m1 := hs1; have m2 := hs2; have m3 := hn1; have m4 := hn2; have m5 := hN
  unfold maxLen at m1 m2 m3 m4 m5
  go_enter Try.func3, Try.ntmps3
  go_wp2_with fail
  refine (bytes5 s1 s2 a1 a2 a3 n1 c1 n2 c2 N cap _ hs1 hs2 hn1 hn2 hN).mono ?_
  rintro e w' ⟨⟨r, rfl, hr⟩, hw⟩
  rw [hw]
  clear hw
  cases r
  · go_wp2
    go_ret
    exact ⟨rfl, Below.refl _ _⟩
  have hb := hr rfl
  clear hr
  go_wp2_with fail
  all_goals first | (go_ret; exact ⟨rfl, Below.refl _ _⟩) | skip
  refine (textok6n s1 a1 c1 n1 z1 _ HZ1 (by omega) (by omega) HA1.out HW1.out).mono ?_
  rintro e w1 ⟨r1, rfl, ht1, nd1, rfl⟩
  cases r1
  · go_wp2
    go_ret
    exact ⟨rfl, below_drewN (Below.refl _ _) _⟩
  have HT1 : Hid (TextOK s1 z1) := ht1 rfl
  clear ht1
  go_wp2_with fail
  refine (textok6n s2 a2 c2 n2 z2 _ HZ2 (by omega) (by omega) (fun h => by obtain ⟨b, o, e, hI⟩ := HA2.out h; exact ⟨b, o, e, hI⟩) HW2.out).mono ?_
  rintro e w2 ⟨r2, rfl, ht2, nd2, rfl⟩
  cases r2
  · go_wp2
    go_ret
    exact ⟨rfl, below_drewN (Below.refl _ _) _⟩
  have HT2 : Hid (TextOK s2 z2) := ht2 rfl
  clear ht2
  have hp1 : 0 < n1 := by rw [← HZ1.out]; exact HT1.out.1
  have hp2 : 0 < n2 := by rw [← HZ2.out]; exact HT2.out.1
  obtain ⟨b1, o1, rfl, hI1⟩ := HA1.out hp1
  obtain ⟨b2, o2, rfl, hI2⟩ := HA2.out hp2
  have HI1 : Hid (I32At w b1 o1 z1) := hI1
  have HI2 : Hid (I32At w b2 o2 z2) := hI2
  clear hI1 hI2 HA1 HA2
  obtain ⟨wx, hwx⟩ : ∃ wx, wx = (w.drewN nd1).drewN nd2 := ⟨_, rfl⟩
  have HBx : Hid (Below w.heap.size w wx) := by rw [hwx]; exact below_drewN (below_drewN (Below.refl _ _) _) _
  rw [← hwx]
  clear hwx
  go_wp2_with fail
  refine (changesok7 ((n1 : Int) - 1) ((n2 : Int) - 1) a3 N cap cs _ HN (by omega) (by omega) (by omega) (HC.out.below HBx.out)).mono ?_
  rintro e wa ⟨⟨r3, rfl, hok⟩, hB7⟩
  have hzx : w.heap.size ≤ wx.heap.size := HBx.out.size
  have HBa : Hid (Below w.heap.size w wa) := HBx.out.trans (hB7.mono hzx)
  cases r3
  · go_wp2
    go_ret
    exact ⟨rfl, HBa.out⟩
  have HOK : Hid (COK ((n1 : Int) - 1) ((n2 : Int) - 1) true 0 0 cs) := hok rfl
  clear hok hB7 hzx HBx
  obtain ⟨i21, hi, hz0, hz1, hz2⟩ := info_parts Try.info21
  go_upto_region 19 with (at_make; refine wpList_make_full _ rfl _ _ 22 rfl wa.heap.size 21 i21 _ 1 Try.underlying22 hi hz0 hz1 .i64 .i64 _ _ n1 rfl rfl rfl rfl (by rw [hz2]; omega) (by unfold maxLen; omega) (Nat.le_refl _) ?_; intro w3 hown3 hgrow3)
  have HBw3 : Hid (Below wa.heap.size wa w3) := grown_below hgrow3 (Nat.le_refl _) (fun k h => by cases h)
  have hwaz : w.heap.size ≤ wa.heap.size := HBa.out.size
  obtain ⟨g1, HG1⟩ : ∃ g1, Hid (g1 = wa.heap.size) := ⟨_, rfl⟩
  rw [← HG1.out] at hown3 ⊢
  have HI1w : Hid (I32At w3 b1 o1 z1) := HI1.out.below (HBa.out.trans (HBw3.out.mono hwaz)) (HI1.out.lt (by rw [HZ1.out]; omega))
  obtain ⟨w4, hrun4, hI4, hB4⟩ := copy_row w3 g1 b1 o1 n1 c1 z1 _ hown3 HI1w.out HZ1.out
  have HJ1 : Hid (I32At w4 g1 0 z1) := hI4
  have HB4 : Hid (Below w.heap.size w w4) := HBa.out.trans ((HBw3.out.mono hwaz).trans (hB4.mono (by rw [HG1.out]; exact hwaz)))
  have h4z : g1 < w4.heap.size := hI4.lt (by rw [HZ1.out]; exact hp1)
  clear hown3 hgrow3 hI4 hB4 HI1w HBw3
  go_upto_region 23 with (at_make; refine wpList_make_full _ rfl _ _ 22 rfl w4.heap.size 21 i21 _ 1 Try.underlying22 hi hz0 hz1 .i64 .i64 _ _ n2 rfl rfl rfl rfl (by rw [hz2]; omega) (by unfold maxLen; omega) (Nat.le_refl _) ?_; intro w5 hown5 hgrow5)
  have HBw5 : Hid (Below w4.heap.size w4 w5) := grown_below hgrow5 (Nat.le_refl _) (fun k h => by cases h)
  have hwz4 : w.heap.size ≤ w4.heap.size := HB4.out.size
  obtain ⟨g2, HG2⟩ : ∃ g2, Hid (g2 = w4.heap.size) := ⟨_, rfl⟩
  rw [← HG2.out] at hown5 ⊢
  have HI2w : Hid (I32At w5 b2 o2 z2) := HI2.out.below (HB4.out.trans (HBw5.out.mono hwz4)) (HI2.out.lt (by rw [HZ2.out]; omega))
  obtain ⟨w6, hrun6, hI6, hB6⟩ := copy_row w5 g2 b2 o2 n2 c2 z2 _ hown5 HI2w.out HZ2.out
  have HJ2 : Hid (I32At w6 g2 0 z2) := hI6
  have HB46 : Hid (Below g2 w4 w6) := (HBw5.out.mono (by rw [HG2.out]; exact Nat.le_refl _)).trans hB6
  have HB6 : Hid (Below w.heap.size w w6) := HB4.out.trans (HB46.out.mono (by rw [HG2.out]; exact hwz4))
  have HJ1 : Hid (I32At w6 g1 0 z1) := HJ1.out.below HB46.out (by rw [HG2.out]; exact h4z)
  have HC6 : Hid (ChAt w6 a3 cs) := HC.out.below HB6.out
  clear hown5 hgrow5 hI6 hB6 HI2w HBw5 HB46 hrun4 hz0 hz1 hz2 hi HB4 HBa
  go_wp2_with fail
  refine (toshim9 a3 N cap cs _ HN (by omega) HC6.out).mono ?_
  rintro e w9 ⟨rfl, hc9, hB9⟩
  have HC9 : Hid (ChAt w9 (some ⟨w6.heap.size, 0, none⟩) cs) := hc9
  have HB9 : Hid (Below w6.heap.size w6 w9) := hB9
  have hz6 : w.heap.size ≤ w6.heap.size := HB6.out.size
  have HBw9 : Hid (Below w.heap.size w w9) := HB6.out.trans (HB9.out.mono hz6)
  have HJ1 : Hid (I32At w9 g1 0 z1) := HJ1.out.below HB9.out (HJ1.out.lt (by rw [HZ1.out]; exact hp1))
  have HJ2 : Hid (I32At w9 g2 0 z2) := HJ2.out.below HB9.out (HJ2.out.lt (by rw [HZ2.out]; exact hp2))
  clear hc9 hB9
  go_wp2_with fail
  refine (zzgroup8 s1 s2 g1 0 n1 n1 g2 0 n2 n2 z1 z2 _ N N cs _ HJ1.out HZ1 HT1.out HJ2.out HZ2 HT2.out (by omega) (by omega) hp1 hp2 (by omega) (by omega) HC9.out HN (by omega) HOK.out).mono ?_
  rintro e wA ⟨v, base, rfl, hbase, hH, hBA⟩
  have HBA : Hid (Below w9.heap.size w9 wA) := hBA
  have hz9 : w.heap.size ≤ w9.heap.size := HBw9.out.size
  have HBwA : Hid (Below w.heap.size w wA) := HBw9.out.trans (HBA.out.mono hz9)
  have HJ1 : Hid (I32At wA g1 0 z1) := HJ1.out.below HBA.out (HJ1.out.lt (by rw [HZ1.out]; exact hp1))
  have HJ2 : Hid (I32At wA g2 0 z2) := HJ2.out.below HBA.out (HJ2.out.lt (by rw [HZ2.out]; exact hp2))
  have HH : Hid (HunksIn wA base v (groupM s1 z1 s2 z2 ((n1 : Int) - 1) N cs)) := hH
  clear hH hBA
  go_wp2_with fail
  refine (model10 s1 s2 g1 n1 g2 n2 z1 z2 a3 N cap cs _ HJ1.out HZ1 HT1.out HJ2.out HZ2 HT2.out (by omega) (by omega) hp1 hp2 (by omega) (by omega) (HC.out.below HBwA.out) HN (by omega) HOK.out).mono ?_
  rintro e wB ⟨v', base', rfl, hbase', hH', hBB⟩
  have hzA : w.heap.size ≤ wA.heap.size := HBwA.out.size
  have HBwB : Hid (Below w.heap.size w wB) := HBwA.out.trans (hBB.mono hzA)
  have HH2 : Hid (HunksIn wB base' v' (groupM s1 z1 s2 z2 ((n1 : Int) - 1) N cs)) := by
    unfold Hid
    rw [group_model HT1.out HT2.out (nT := (n2 : Int) - 1) (by rw [HZ1.out]) (by rw [HZ2.out]) (by omega) cs HOK.out, ← HN.out] at hH'
    exact hH'
  have HH1 : Hid (HunksIn wB base v (groupM s1 z1 s2 z2 ((n1 : Int) - 1) N cs)) := HH.out.below hBB (Nat.le_refl _)
  clear hH' hBB
  have hzB : w.heap.size ≤ wB.heap.size := HBwB.out.size
  go_wp2_with fail
  refine (same11 v v' base base' _ wB HH1.out HH2.out).mono ?_
  rintro e wC ⟨rfl, hBC⟩
  have HBwC : Hid (Below w.heap.size w wC) := HBwB.out.trans (hBC.mono hzB)
  clear hBC
  go_wp2
  go_ret
  exact ⟨rfl, HBwC.out⟩
end Go.Proofs.Qxb6602907a
