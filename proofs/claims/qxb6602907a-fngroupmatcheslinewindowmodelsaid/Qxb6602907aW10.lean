import Derived.Test.Qxb6602907aW8
import Derived.Test.Qxb6602907aW9
import Derived.Test.Qxb6602907aL4
import Derived.Laws.CopyOwn
import Derived.WalkLawsBesides
namespace Go.Proofs.Qxb6602907a
open Go.RowKit
set_option linter.unusedVariables false

theorem Try.info21 : (Try.prog.info? 21).map (fun i => (i.zero, i.size, i.bytes)) = some (some (.int .i32 0), 1, 4) := by kernel_rfl

theorem textok6n (s : ByteArray) (a : Option Addr) (c n : Nat) (z : List Int) (w : World) (HZ : Hid (z.length = n)) (hn : n ≤ 1048576) (hs : s.size ≤ 1048576) (hc : 0 < n → ∃ b o, a = some ⟨b, o, none⟩ ∧ I32At w b o z) (hwf : ∀ i, -2147483648 ≤ z.getD i 0 ∧ z.getD i 0 ≤ 2147483647) :
    Calls Try.prog 6 #[.string s, .slice a n c] w fun e w' => ∃ r : Bool, e = .returned (.bool r) ∧ (r = true → TextOK s z) ∧ ∃ n, w' = w.drewN n := by
  have h := HZ.out
  subst h
  exact textok6 s a c z w hn hs hc hwf

theorem ChAt.below {w W : World} {ao : Option Addr} {cs : List Ch} (h : ChAt w ao cs) (hb : Below w.heap.size w W) : ChAt W ao cs := fun k c hk => by
  obtain ⟨b, o, e, q⟩ := h k c hk
  exact ⟨b, o, e, q.below hb (World.block_lt_of_cell? w _ q.1)⟩

/-- 'copy(zzc, starts)' into a fresh row. -/
theorem copy_row (w : World) (g b o n cap : Nat) (z : List Int) (xs : List Value) (hown : w.ownsRow g 21 1 (.slice (some ⟨g, 0, none⟩) n n) n xs) (hI : I32At w b o z) (hz : z.length = n) :
    ∃ W, (∀ ty, (Builtin.copy_ #[22, 22] ty #[.slice (some ⟨g, 0, none⟩) n n, .slice (some ⟨b, o, none⟩) n cap]).run Try.prog w = .ok (goInt n) W) ∧ I32At W g 0 z ∧ Below g w W := by
  rcases hown.2 with ⟨h, _⟩ | ⟨g', cp, cur, he, _, hg, _, _, hcs, _⟩
  · cases h
  have he' : g = g' ∧ n = cp := by simpa using he
  obtain ⟨rfl, rfl⟩ := he'
  have hsrc : ∀ j v, (z.map (Value.int .i32))[j]? = some v → w.cell? ((⟨b, o, none⟩ : Addr).add j) = some v := by
    intro j v hv
    rw [List.getElem?_map] at hv
    have hj : j < z.length := by
      rcases Nat.lt_or_ge j z.length with h | h
      · exact h
      · rw [List.getElem?_eq_none h] at hv; cases hv
    have := hI j hj
    have hadd : (⟨b, o, none⟩ : Addr).add j = ⟨b, o + j, none⟩ := by unfold Addr.add; split <;> simp_all
    rw [hadd, this]
    rw [List.getElem?_eq_getElem hj] at hv
    simp only [Option.map_some, Option.some.injEq] at hv
    rw [← hv, List.getD_eq_getElem?_getD, List.getElem?_eq_getElem hj]
    rfl
  have hrun := fun ty => run_copy_row (P := Try.prog) w 22 22 ty 21 g 0 n n ⟨b, o, none⟩ n cap cur 21 (z.map (Value.int .i32)) Try.underlying22 (by kernel_rfl) hg (by simp [hz]) hsrc (by simp [hz]; omega) (ints_oneCell .i32 z)
  refine ⟨w.setRow g (cur.toList.take 0 ++ z.map (Value.int .i32) ++ cur.toList.drop (0 + (z.map (Value.int .i32)).length)).toArray, fun ty => ?_, ?_, ?_⟩
  · rw [hrun ty, List.length_map, hz]
  · intro i hi
    rw [cell_of_row _ g (0 + i) _ 21 (0, 0) (setRow_heap w g cur _ 21 _ hg)]
    simp only [List.take_zero, List.nil_append, Nat.zero_add]
    rw [List.getElem?_toArray, List.getElem?_append_left (by simpa using hi), List.getElem?_map, List.getElem?_eq_getElem hi, List.getD_eq_getElem?_getD, List.getElem?_eq_getElem hi]
    rfl
  · exact below_setRow (Below.refl _ _) (Nat.le_refl _) _

set_option maxHeartbeats 4000000 in
set_option maxRecDepth 8000 in
theorem patch4 (s1 s2 : ByteArray) (a1 a2 a3 : Option Addr) (n1 c1 n2 c2 N cap : Nat) (z1 z2 : List Int) (cs : List Ch) (w : World)
    (hs1 : s1.size ≤ maxLen) (hs2 : s2.size ≤ maxLen) (hn1 : n1 ≤ maxLen) (hn2 : n2 ≤ maxLen) (hN : N ≤ maxLen)
    (HZ1 : Hid (z1.length = n1)) (HZ2 : Hid (z2.length = n2)) (HN : Hid (N = cs.length))
    (h1 : 0 < n1 → ∃ b o, a1 = some ⟨b, o, none⟩ ∧ I32At w b o z1) (h2 : 0 < n2 → ∃ b o, a2 = some ⟨b, o, none⟩ ∧ I32At w b o z2)
    (hw1 : ∀ i, -2147483648 ≤ z1.getD i 0 ∧ z1.getD i 0 ≤ 2147483647) (hw2 : ∀ i, -2147483648 ≤ z2.getD i 0 ∧ z2.getD i 0 ≤ 2147483647) (hc : ChAt w a3 cs) :
    Calls Try.prog 4 #[.string s1, .slice a1 n1 c1, .string s2, .slice a2 n2 c2, .slice a3 N cap] w fun e w' =>
      e = .returned (.bool true) ∧ Below w.heap.size w w' := by
  have HW1 : Hid (∀ i, -2147483648 ≤ z1.getD i 0 ∧ z1.getD i 0 ≤ 2147483647) := hw1
  have HW2 : Hid (∀ i, -2147483648 ≤ z2.getD i 0 ∧ z2.getD i 0 ≤ 2147483647) := hw2
  have HA1 : Hid (0 < n1 → ∃ b o, a1 = some ⟨b, o, none⟩ ∧ I32At w b o z1) := h1
  have HA2 : Hid (0 < n2 → ∃ b o, a2 = some ⟨b, o, none⟩ ∧ I32At w b o z2) := h2
  have HC : Hid (ChAt w a3 cs) := hc
  clear hw1 hw2 h1 h2 hc
  have m1 := hs1; have m2 := hs2; have m3 := hn1; have m4 := hn2; have m5 := hN
  unfold maxLen at m1 m2 m3 m4 m5
  go_enter Try.func4, Try.ntmps4
  go_wp2_with fail
  refine (bytes12 s1 s2 a1 a2 a3 n1 c1 n2 c2 N cap _ hs1 hs2 hn1 hn2 hN).mono ?_
  rintro e w' ⟨⟨r, rfl, hr⟩, hw⟩
  rw [hw]
  clear hw
  cases r
  · go_wp2
    go_ret
    exact ⟨rfl, Below.refl _ _⟩
  have hb := hr rfl
  clear hr
  go_wp2_with fail
  all_goals first | (go_ret; exact ⟨rfl, Below.refl _ _⟩) | skip
  refine (textok6n s1 a1 c1 n1 z1 _ HZ1 (by omega) (by omega) HA1.out HW1.out).mono ?_
  rintro e w1 ⟨r1, rfl, ht1, nd1, rfl⟩
  cases r1
  · go_wp2
    go_ret
    exact ⟨rfl, below_drewN (Below.refl _ _) _⟩
  have HT1 : Hid (TextOK s1 z1) := ht1 rfl
  clear ht1
  go_wp2_with fail
  refine (textok6n s2 a2 c2 n2 z2 _ HZ2 (by omega) (by omega) (fun h => by obtain ⟨b, o, e, hI⟩ := HA2.out h; exact ⟨b, o, e, hI⟩) HW2.out).mono ?_
  rintro e w2 ⟨r2, rfl, ht2, nd2, rfl⟩
  cases r2
  · go_wp2
    go_ret
    exact ⟨rfl, below_drewN (Below.refl _ _) _⟩
  have HT2 : Hid (TextOK s2 z2) := ht2 rfl
  clear ht2
  have hp1 : 0 < n1 := by rw [← HZ1.out]; exact HT1.out.1
  have hp2 : 0 < n2 := by rw [← HZ2.out]; exact HT2.out.1
  obtain ⟨b1, o1, rfl, hI1⟩ := HA1.out hp1
  obtain ⟨b2, o2, rfl, hI2⟩ := HA2.out hp2
  have HI1 : Hid (I32At w b1 o1 z1) := hI1
  have HI2 : Hid (I32At w b2 o2 z2) := hI2
  clear hI1 hI2 HA1 HA2
  obtain ⟨wa, hwa⟩ : ∃ wa, wa = (w.drewN nd1).drewN nd2 := ⟨_, rfl⟩
  have HBa : Hid (Below w.heap.size w wa) := by rw [hwa]; exact below_drewN (below_drewN (Below.refl _ _) _) _
  rw [← hwa]
  clear hwa
  obtain ⟨i21, hi, hz0, hz1, hz2⟩ := info_parts Try.info21
  go_upto_region 17 with (at_make; refine wpList_make_full _ rfl _ _ 22 rfl wa.heap.size 21 i21 _ 1 Try.underlying22 hi hz0 hz1 .i64 .i64 _ _ n1 rfl rfl rfl rfl (by rw [hz2]; omega) (by unfold maxLen; omega) (Nat.le_refl _) ?_; intro w3 hown3 hgrow3)
  have HBw3 : Hid (Below wa.heap.size wa w3) := grown_below hgrow3 (Nat.le_refl _) (fun k h => by cases h)
  have hwaz : w.heap.size ≤ wa.heap.size := HBa.out.size
  obtain ⟨g1, HG1⟩ : ∃ g1, Hid (g1 = wa.heap.size) := ⟨_, rfl⟩
  rw [← HG1.out] at hown3 ⊢
  have HI1w : Hid (I32At w3 b1 o1 z1) := HI1.out.below (HBa.out.trans (HBw3.out.mono hwaz)) (HI1.out.lt (by rw [HZ1.out]; omega))
  obtain ⟨w4, hrun4, hI4, hB4⟩ := copy_row w3 g1 b1 o1 n1 c1 z1 _ hown3 HI1w.out HZ1.out
  have HJ1 : Hid (I32At w4 g1 0 z1) := hI4
  have HB4 : Hid (Below w.heap.size w w4) := HBa.out.trans ((HBw3.out.mono hwaz).trans (hB4.mono (by rw [HG1.out]; exact hwaz)))
  have h4z : g1 < w4.heap.size := hI4.lt (by rw [HZ1.out]; exact hp1)
  clear hown3 hgrow3 hI4 hB4 HI1w HBw3
  go_upto_region 21 with (at_make; refine wpList_make_full _ rfl _ _ 22 rfl w4.heap.size 21 i21 _ 1 Try.underlying22 hi hz0 hz1 .i64 .i64 _ _ n2 rfl rfl rfl rfl (by rw [hz2]; omega) (by unfold maxLen; omega) (Nat.le_refl _) ?_; intro w5 hown5 hgrow5)
  have HBw5 : Hid (Below w4.heap.size w4 w5) := grown_below hgrow5 (Nat.le_refl _) (fun k h => by cases h)
  have hwz4 : w.heap.size ≤ w4.heap.size := HB4.out.size
  obtain ⟨g2, HG2⟩ : ∃ g2, Hid (g2 = w4.heap.size) := ⟨_, rfl⟩
  rw [← HG2.out] at hown5 ⊢
  have HI2w : Hid (I32At w5 b2 o2 z2) := HI2.out.below (HB4.out.trans (HBw5.out.mono hwz4)) (HI2.out.lt (by rw [HZ2.out]; omega))
  obtain ⟨w6, hrun6, hI6, hB6⟩ := copy_row w5 g2 b2 o2 n2 c2 z2 _ hown5 HI2w.out HZ2.out
  have HJ2 : Hid (I32At w6 g2 0 z2) := hI6
  have HB46 : Hid (Below g2 w4 w6) := (HBw5.out.mono (by rw [HG2.out]; exact Nat.le_refl _)).trans hB6
  have HB6 : Hid (Below w.heap.size w w6) := HB4.out.trans (HB46.out.mono (by rw [HG2.out]; exact hwz4))
  have HJ1 : Hid (I32At w6 g1 0 z1) := HJ1.out.below HB46.out (by rw [HG2.out]; exact h4z)
  have HC6 : Hid (ChAt w6 a3 cs) := HC.out.below HB6.out
  clear hown5 hgrow5 hI6 hB6 HI2w HBw5 HB46 hrun4 hz0 hz1 hz2 hi HB4 HBa
  go_wp2_with fail
  refine (changesok7 ((n1 : Int) - 1) ((n2 : Int) - 1) a3 N cap cs _ HN (by omega) (by omega) (by omega) HC6.out).mono ?_
  rintro e w7 ⟨⟨r3, rfl, hok⟩, hB7⟩
  have HB7 : Hid (Below w6.heap.size w6 w7) := hB7
  have hz6 : w.heap.size ≤ w6.heap.size := HB6.out.size
  have HBw7 : Hid (Below w.heap.size w w7) := HB6.out.trans (HB7.out.mono hz6)
  cases r3
  · go_wp2
    go_ret
    exact ⟨rfl, HBw7.out⟩
  have HOK : Hid (COK ((n1 : Int) - 1) ((n2 : Int) - 1) true 0 0 cs) := hok rfl
  clear hok hB7
  have HJ1 : Hid (I32At w7 g1 0 z1) := HJ1.out.below HB7.out (HJ1.out.lt (by rw [HZ1.out]; exact hp1))
  have HJ2 : Hid (I32At w7 g2 0 z2) := HJ2.out.below HB7.out (HJ2.out.lt (by rw [HZ2.out]; exact hp2))
  go_wp2_with fail
  refine (agree13 s1 s2 g1 0 n1 n1 g2 0 n2 n2 z1 z2 a3 N cap cs _ HJ1.out HZ1 HT1.out HJ2.out HZ2 HT2.out (by omega) (by omega) hp1 hp2 (by omega) (by omega) (HC.out.below HBw7.out) HN (by omega) HOK.out).mono ?_
  rintro e w8 ⟨⟨r4, rfl, hag⟩, hB8⟩
  have HB8 : Hid (Below w7.heap.size w7 w8) := hB8
  have hz7 : w.heap.size ≤ w7.heap.size := HBw7.out.size
  have HBw8 : Hid (Below w.heap.size w w8) := HBw7.out.trans (HB8.out.mono hz7)
  cases r4
  · go_wp2
    go_ret
    exact ⟨rfl, HBw8.out⟩
  have HAG : Hid (Agree s1 z1 s2 z2 (scr ((n1 : Int) - 1) cs 0 0)) := hag rfl
  clear hag hB8
  have HJ1 : Hid (I32At w8 g1 0 z1) := HJ1.out.below HB8.out (HJ1.out.lt (by rw [HZ1.out]; exact hp1))
  have HJ2 : Hid (I32At w8 g2 0 z2) := HJ2.out.below HB8.out (HJ2.out.lt (by rw [HZ2.out]; exact hp2))
  go_wp2_with fail
  refine (toshim9 a3 N cap cs _ HN (by omega) (HC.out.below HBw8.out)).mono ?_
  rintro e w9 ⟨rfl, hc9, hB9⟩
  have HC9 : Hid (ChAt w9 (some ⟨w8.heap.size, 0, none⟩) cs) := hc9
  have HB9 : Hid (Below w8.heap.size w8 w9) := hB9
  have hz8 : w.heap.size ≤ w8.heap.size := HBw8.out.size
  have HBw9 : Hid (Below w.heap.size w w9) := HBw8.out.trans (HB9.out.mono hz8)
  have HJ1 : Hid (I32At w9 g1 0 z1) := HJ1.out.below HB9.out (HJ1.out.lt (by rw [HZ1.out]; exact hp1))
  have HJ2 : Hid (I32At w9 g2 0 z2) := HJ2.out.below HB9.out (HJ2.out.lt (by rw [HZ2.out]; exact hp2))
  clear hc9 hB9
  go_wp2_with fail
  refine (zzgroup8 s1 s2 g1 0 n1 n1 g2 0 n2 n2 z1 z2 _ N N cs _ HJ1.out HZ1 HT1.out HJ2.out HZ2 HT2.out (by omega) (by omega) hp1 hp2 (by omega) (by omega) HC9.out HN (by omega) HOK.out).mono ?_
  rintro e wA ⟨v, base, rfl, hbase, hH, hBA⟩
  have HBA : Hid (Below w9.heap.size w9 wA) := hBA
  have hz9 : w.heap.size ≤ w9.heap.size := HBw9.out.size
  have HBwA : Hid (Below w.heap.size w wA) := HBw9.out.trans (HBA.out.mono hz9)
  have HJ1 : Hid (I32At wA g1 0 z1) := HJ1.out.below HBA.out (HJ1.out.lt (by rw [HZ1.out]; exact hp1))
  have HJ2 : Hid (I32At wA g2 0 z2) := HJ2.out.below HBA.out (HJ2.out.lt (by rw [HZ2.out]; exact hp2))
  obtain ⟨hs, HHS⟩ : ∃ hs, Hid (hs = groupM s1 z1 s2 z2 ((n1 : Int) - 1) N cs) := ⟨_, rfl⟩
  rw [← HHS.out] at hH
  have HH : Hid (HunksIn wA base v hs) := hH
  have HP : Hid (Patches s1 z1 s2 z2 ((n1 : Int) - 1) ((n2 : Int) - 1) 0 0 [] hs) := by
    unfold Hid
    rw [HHS.out]
    have := patches_groupM HT1.out HT2.out (nF := (n1 : Int) - 1) (nT := (n2 : Int) - 1) (by rw [HZ1.out]) (by rw [HZ2.out]) N cs true 0 0 0 0 (by rw [← HN.out]; exact Nat.le_refl _) HOK.out (fun _ => by omega) HAG.out (by omega) (by omega) (by omega) (by omega) (fun c r _ => by unfold hI0; omega)
    rw [T_self] at this
    exact this
  clear hH hBA HC9 HB9 HBw9 HB8 HBw8 HB7 HBw7 HC6 HB6 HC HI1 HI2 hbase
  obtain ⟨rvs, hrvl, hrow, hrr⟩ := HH.out
  obtain ⟨av, cv, rfl⟩ := owns_len hrow
  obtain ⟨K, HK⟩ : ∃ K, Hid (K = hs.length) := ⟨_, rfl⟩
  have hKb : K ≤ 9223372036854775807 := by have := owns_max hrow; rw [← HK.out] at this; unfold maxLen at this; omega
  clear hrvl hrow hrr rvs
  rw [← HK.out] at HH ⊢
  obtain ⟨B, HBB⟩ : ∃ B, Hid (B = wA.heap.size) := ⟨_, rfl⟩
  have hwB : w.heap.size ≤ B := by rw [HBB.out]; exact HBwA.out.size
  have hg1B : g1 < B := by rw [HBB.out]; exact HJ1.out.lt (by rw [HZ1.out]; exact hp1)
  have hg2B : g2 < B := by rw [HBB.out]; exact HJ2.out.lt (by rw [HZ2.out]; exact hp2)
  obtain ⟨i5, h50, h51, h52, h53⟩ := info_parts Try.info5
  go_upto_block 0 with fail
  refine wp_onlyN (loop4 _ (by rfl) _ wA s1 s2 g1 n1 g2 n2 K cv base B av z1 z2 hs _ _ _ _ _ _ _ _ _ _ _ _ _ _ _ _ _ _ _ _ _ _ _ _ _ _ _ _ _ _ _ _ _ _ _ _ _ _ _ _ _ _ _ _ _ _ _ _ _ _ _ _ _ _ _ _ _ _ _ _ _ _ _ _ _ _ _ _ _ _ _ _ _ _ _ _ _ _ _ _ _ _ _ _ _ _ _ _ _ _ _ _ _ _ _ _ _ _ _ _ _ _ _ _ _ _ _ _ _ _ _ _ _ _ _ _ _ _ _ _ _ _ _ _ _ _ _ _ _ _ _ _ _ _ _ _ _ _ _ _ _ _ _ _ _ _ _ _ _ _ _ _ _ _ _ _ _ _ _ _ _ _ _ _ _ _ _ _ _ _ _ _ _ _ _ _ _ _ _ _ _ _ _ _ _ _ _ _ _ _ _ _ _ _ _ _ _ _ _ _ _ _ _ _ _ _ _ _ _ _ _ _ _ _ _ _ _ _ _ _ _ _ _ _ _ _ _ _ _ _ _ _ _ _ _ _ _ _ _ _ _ _ _ _ _ _ _ _ _ _ _ _ _ _ _ _ _ _ _ _ _ _ _ _ _ _ _ _ _ _ _ _ _ _ _ _ _ _ _ _ _ _ HT1 HT2 HZ1 HZ2 HJ1 HJ2 (by omega) (by omega) (by omega) (by omega) hp1 hp2 HH HK hKb HBB hg1B hg2B HP ?_)
  intro _ _ _ _ _ _ _ _ _ _ _ _ _ _ _ _ _ _ _ _ _ _ _ _ _ _ _ _ _ _ _ _ _ _ _ _ _ _ _ _ _ _ _ _ _ _ _ _ _ _ _ _ _ _ _ _ _ _ _ _ _ _ _ _ _ _ _ _ _ _ _ _ _ _ _ _ _ _ _ _ _ _ _ _ _ _ _ _ _ _ _ _ _ _ _ _ _ _ _ _ _ _ _ _ _ _ _ _ _ _ _ _ _ _ _ _ _ _ _ _ _ _ _ _ _ _ _ _ _ _ _ _ _ _ _ _ _ _ _ _ _ _ _ _ _ _ _ _ _ _ _ _ _ _ _ _ _ _ _ _ _ _ _ _ _ _ _ _ _ _ _ _ _ _ _ _ _ _ _ _ vo cu tcu out wZ hO hPn hBZ
  obtain ⟨r1, r2, r3⟩ := hPn
  have HO : Hid (BytesIn wZ B vo out) := hO
  have HBZ : Hid (Below B wA wZ) := hBZ
  have HJz : Hid (I32At wZ g1 0 z1) := HJ1.out.below hBZ hg1B
  have y1 := HJz.out.at (i := cu) (by omega) (by rw [HZ1.out]; omega)
  obtain ⟨p1, p2, p3⟩ := HT1.out.at (i := cu) (j := (n1 : Int) - 1) (by omega) (by omega) (by rw [HZ1.out]; omega)
  obtain ⟨X, HX⟩ : ∃ X, Hid (X = z1.getD cu.toNat 0) := ⟨_, rfl⟩
  rw [← HX.out] at y1 p1 p2
  have hXs : X ≤ s1.size := Int.le_trans p2 p3
  have HFIN : Hid (out ++ (s1.extract X.toNat s1.size).data.toList = s2.data.toList) := by
    unfold Hid
    rw [← r3]
    congr 1
    have := T_last HT1.out cu
    rw [HZ1.out] at this
    rw [this, ← HX.out]
    rw [ByteArray.data_extract, Array.toList_extract, List.extract_eq_take_drop]
    rw [List.take_of_length_le]
    rw [List.length_drop]
    show s1.size - X.toNat ≤ s1.size - X.toNat
    exact Nat.le_refl _
  have hol : out.length ≤ 1048576 := by
    have := congrArg List.length r3
    rw [List.length_append] at this
    have e : s2.data.toList.length = s2.size := rfl
    omega
  have hxs : (s1.extract X.toNat s1.size).size ≤ 1048576 := Nat.le_trans (extract_size_le _ _ _) (by omega)
  have hwX : IntKind.i64.wrap X = X := IntWalk.i64_in _ (by omega)
  have hBZz : B ≤ wZ.heap.size := by rw [HBB.out]; exact hBZ.size
  have r2a : (n2 : Int) - 1 - tcu ≤ (n1 : Int) - 1 - cu := by omega
  have r2b : (n1 : Int) - 1 - cu ≤ (n2 : Int) - 1 - tcu := by omega
  have icu : cu < (n1 : Int) := by omega
  clear hO hBZ r3 r2 p2 p3
  go_wp2_with (at_builtin; refine wpList_append_src _ rfl (.tmp 280) (.tmp 287) 33 9 rfl B 5 i5 _ 1 1 Try.underlying33 h50 h51 h52 h53 rfl (by decide) vo _ _ rfl (by exact HO.out) (.string (s1.extract X.toNat s1.size)) _ _ rfl (Src.ofString _ Try.underlying9 _) (by unfold maxLen; omega) (by omega) (by omega) ?_; intro vo2 w5 ho5 hg5 hat5; have hcv : Sem.run Try.prog (convert 33 9 vo2) w5 = .ok (.string ⟨(out ++ (s1.extract X.toNat s1.size).data.toList).toArray⟩) w5 := bytes_conv (base := B) (by unfold BytesIn; rw [List.length_append, bCells_append]; exact ho5))
  go_ret
  refine ⟨?_, ?_⟩
  · have hf : (out ++ List.take (s1.size - X.toNat) (List.drop X.toNat s1.data.toList) == s2.toList) = true := by
      have hfin := HFIN.out
      rw [Go.ByteArray.toList_eq, ← hfin]
      simp
    exact congrArg (fun b => Ending.returned (Value.bool b)) hf
  · exact HBwA.out.trans ((HBZ.out.trans (grown_below hg5 hBZz (fun k hk => (World.ownsRow.lt HO.out k hk).1))).mono hwB)
end Go.Proofs.Qxb6602907a
