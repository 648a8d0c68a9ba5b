import Derived.Test.Qxb6600979aW2
namespace Go.Proofs.Qxb6600979a
open Go.RowKit
set_option linter.unusedVariables false

theorem Try.info5 : (Try.prog.info? 5).map (fun i => (i.zero, i.size, i.bytes)) = some (some (.int .u8 0), 1, 1) := by kernel_rfl

theorem drop_at {α : Type} {l : List α} {p : Nat} {x : α} (h : l[p]? = some x) : l.drop p = x :: l.drop (p + 1) := by
  have hl : p < l.length := by
    rcases Nat.lt_or_ge p l.length with h' | h'
    · exact h'
    · rw [List.getElem?_eq_none h'] at h; cases h
  rw [List.drop_eq_getElem_cons hl]
  rw [List.getElem?_eq_getElem hl] at h
  simp at h
  rw [h]

theorem drop_none {α : Type} (l : List α) (k : Nat) (h : l.length ≤ k) : l.drop k = [] := List.drop_eq_nil_of_le h
theorem cb_cons (a b : UInt8) (x y : List UInt8) : cb (a :: x) (b :: y) = if a < b then -1 else if b < a then 1 else cb x y := rfl

set_option maxHeartbeats 2000000 in
theorem cmpb16 (x y : Sl) (w : World) (hx : SlAt w x) (hy : SlAt w y) : Calls Try.prog 16 #[x.v, y.v] w fun e w' => e = .returned (.int .i64 (cb x.l y.l)) ∧ ∃ n, w' = w.drewN n := by
  obtain ⟨xa, xn, xc, xl⟩ := x
  obtain ⟨ya, yn, yc, yl⟩ := y
  have HX : Hid (SlAt w ⟨xa, xn, xc, xl⟩) := hx
  have HY : Hid (SlAt w ⟨ya, yn, yc, yl⟩) := hy
  have HXL : Hid (xl.length = xn) := hx.1
  have HYL : Hid (yl.length = yn) := hy.1
  have hxb : xn ≤ 1048576 := hx.2.1
  have hyb : yn ≤ 1048576 := hy.2.1
  clear hx hy
  simp only
  unfold Sl.v
  simp only
  rcases Nat.lt_or_ge yn xn with hyx | hyx
  · obtain ⟨m, hm1, hm2⟩ : ∃ m, m ≤ yn ∧ yn ≤ m := ⟨yn, Nat.le_refl _, Nat.le_refl _⟩
    have iyx : (yn : Int) < xn := by omega
    go_enter Try.func16, Try.ntmps16
    go_wp2
    go_loopw [6] (fun i wr => ∃ (k nd : Nat), k ≤ m ∧ i = .int .i64 k ∧ Hid (cb (xl.drop k) (yl.drop k) = cb xl yl) ∧ wr = w.drewN nd) (fun i _ => m - (intOf i).toNat)
    case atStart => exact ⟨0, 0, by omega, rfl, rfl, rfl⟩
    case round =>
      obtain ⟨k, nd, hk, rfl, HE, rfl⟩ := hrel
      by_cases hlt : k < m
      · have ix : (k : Int) < xn := by omega
        have iy : (k : Int) < yn := by omega
        obtain ⟨b1, hb1⟩ : ∃ b, xl[k]? = some b := ⟨xl[k]'(by rw [HXL.out]; omega), by simp⟩
        obtain ⟨b2, hb2⟩ : ∃ b, yl[k]? = some b := ⟨yl[k]'(by rw [HYL.out]; omega), by simp⟩
        obtain ⟨g1, o1, e1, c1⟩ := HX.out.2.2.2 k b1 hb1
        obtain ⟨g2, o2, e2, c2⟩ := HY.out.2.2.2 k b2 hb2
        have HD1 : Hid (xl.drop k = b1 :: xl.drop (k + 1)) := drop_at hb1
        have HD2 : Hid (yl.drop k = b2 :: yl.drop (k + 1)) := drop_at hb2
        simp only at e1 e2
        subst e1 e2
        have hE := HE.out
        rw [HD1.out, HD2.out, cb_cons] at hE
        have HE' : Hid _ := hE
        clear hE hb1 hb2
        go_wp2
        go_quiet (fail)
        go_wp2
        · rename_i h1
          go_ret
          refine ⟨?_, _, drewN_add _ _ _⟩
          have := HE'.out
          rw [if_pos (UInt8.lt_iff_toNat_lt.mpr (by omega))] at this
          rw [← this]
          rfl
        · rename_i h1
          go_quiet (fail)
          go_wp2
          · rename_i h2
            go_ret
            refine ⟨?_, _, by rw [drewN_add, drewN_add]⟩
            have := HE'.out
            rw [if_neg (by rw [UInt8.lt_iff_toNat_lt]; omega), if_pos (UInt8.lt_iff_toNat_lt.mpr (by omega))] at this
            rw [← this]
            rfl
          · rename_i h2
            go_roundw
            case rel => exact ⟨k + 1, _, by omega, by go_num, by
              have := HE'.out
              rw [if_neg (by rw [UInt8.lt_iff_toNat_lt]; omega), if_neg (by rw [UInt8.lt_iff_toNat_lt]; omega)] at this
              exact this, rfl⟩
            case measure => go_light; simp only [intOf]; omega
      · obtain rfl : k = m := by omega
        have hkN : ¬ (k : Int) < yn := by omega
        have HE' := HE.out
        rw [drop_none yl k (by rw [HYL.out]; omega)] at HE'
        obtain ⟨b, r, hbr⟩ : ∃ b r, xl.drop k = b :: r := by
          cases h : xl.drop k with
          | nil => have := congrArg List.length h; simp only [List.length_drop, HXL.out, List.length_nil] at this; omega
          | cons b r => exact ⟨b, r, rfl⟩
        rw [hbr] at HE'
        have i3 : ¬ (xn : Int) < yn := by omega
        have i4 : (yn : Int) < xn := by omega
        go_wp2
        go_ret
        exact ⟨by rw [← HE']; rfl, _, rfl⟩
  · obtain ⟨m, hm1, hm2⟩ : ∃ m, m ≤ xn ∧ xn ≤ m := ⟨xn, Nat.le_refl _, Nat.le_refl _⟩
    have iyx : ¬ (yn : Int) < xn := by omega
    go_enter Try.func16, Try.ntmps16
    go_wp2
    go_loopw [6] (fun i wr => ∃ (k nd : Nat), k ≤ m ∧ i = .int .i64 k ∧ Hid (cb (xl.drop k) (yl.drop k) = cb xl yl) ∧ wr = w.drewN nd) (fun i _ => m - (intOf i).toNat)
    case atStart => exact ⟨0, 0, by omega, rfl, rfl, rfl⟩
    case round =>
      obtain ⟨k, nd, hk, rfl, HE, rfl⟩ := hrel
      by_cases hlt : k < m
      · have ix : (k : Int) < xn := by omega
        have iy : (k : Int) < yn := by omega
        obtain ⟨b1, hb1⟩ : ∃ b, xl[k]? = some b := ⟨xl[k]'(by rw [HXL.out]; omega), by simp⟩
        obtain ⟨b2, hb2⟩ : ∃ b, yl[k]? = some b := ⟨yl[k]'(by rw [HYL.out]; omega), by simp⟩
        obtain ⟨g1, o1, e1, c1⟩ := HX.out.2.2.2 k b1 hb1
        obtain ⟨g2, o2, e2, c2⟩ := HY.out.2.2.2 k b2 hb2
        have HD1 : Hid (xl.drop k = b1 :: xl.drop (k + 1)) := drop_at hb1
        have HD2 : Hid (yl.drop k = b2 :: yl.drop (k + 1)) := drop_at hb2
        simp only at e1 e2
        subst e1 e2
        have hE := HE.out
        rw [HD1.out, HD2.out, cb_cons] at hE
        have HE' : Hid _ := hE
        clear hE hb1 hb2
        go_wp2
        go_quiet (fail)
        go_wp2
        · rename_i h1
          go_ret
          refine ⟨?_, _, drewN_add _ _ _⟩
          have := HE'.out
          rw [if_pos (UInt8.lt_iff_toNat_lt.mpr (by omega))] at this
          rw [← this]
          rfl
        · rename_i h1
          go_quiet (fail)
          go_wp2
          · rename_i h2
            go_ret
            refine ⟨?_, _, by rw [drewN_add, drewN_add]⟩
            have := HE'.out
            rw [if_neg (by rw [UInt8.lt_iff_toNat_lt]; omega), if_pos (UInt8.lt_iff_toNat_lt.mpr (by omega))] at this
            rw [← this]
            rfl
          · rename_i h2
            go_roundw
            case rel => exact ⟨k + 1, _, by omega, by go_num, by
              have := HE'.out
              rw [if_neg (by rw [UInt8.lt_iff_toNat_lt]; omega), if_neg (by rw [UInt8.lt_iff_toNat_lt]; omega)] at this
              exact this, rfl⟩
            case measure => go_light; simp only [intOf]; omega
      · obtain rfl : k = m := by omega
        have hkN : ¬ (k : Int) < xn := by omega
        have HE' := HE.out
        rw [drop_none xl k (by rw [HXL.out]; omega)] at HE'
        by_cases hyx : xn < yn
        · obtain ⟨b, r, hbr⟩ : ∃ b r, yl.drop k = b :: r := by
            cases h : yl.drop k with
            | nil => have := congrArg List.length h; simp only [List.length_drop, HYL.out, List.length_nil] at this; omega
            | cons b r => exact ⟨b, r, rfl⟩
          rw [hbr] at HE'
          have i3 : (xn : Int) < yn := by omega
          go_wp2
          go_ret
          exact ⟨by rw [← HE']; rfl, _, rfl⟩
        · rw [drop_none yl k (by rw [HYL.out]; omega)] at HE'
          have i3 : ¬ (xn : Int) < yn := by omega
          have i4 : ¬ (yn : Int) < xn := by omega
          go_wp2
          go_ret
          exact ⟨by rw [← HE']; rfl, _, rfl⟩

def Fresh (B : Nat) (s : Sl) : Prop := ∀ ad, s.a = some ad → B ≤ ad.block

/-- A fresh copy. -/
structure Copied (w w' : World) (x y : Sl) : Prop where
  at_ : SlAt w' y
  l : y.l = x.l
  nil : y.a.isNone = x.a.isNone
  fresh : Fresh w.heap.size y
  below : Below w.heap.size w w'
theorem Copied.pb {w w' : World} {x y : Sl} (h : Copied w w' x y) : y.pb = x.pb := by unfold Sl.pb; rw [h.nil, h.l]

set_option maxHeartbeats 2000000 in
theorem dup20 (x : Sl) (w : World) (hx : SlAt w x) : Calls Try.prog 20 #[x.v] w fun e w' => ∃ y : Sl, e = .returned y.v ∧ Copied w w' x y := by
  obtain ⟨xa, xn, xc, xl⟩ := x
  cases xa with
  | none =>
    rw [hx.none]
    unfold nilS Sl.v
    simp only
    go_enter Try.func20, Try.ntmps20
    go_wp2
    go_ret
    exact ⟨nilS, rfl, SlAt.nil _, rfl, rfl, fun ad h => (by cases h), Below.refl _ _⟩
  | some xa =>
    have HX : Hid (SlAt w ⟨some xa, xn, xc, xl⟩) := hx
    have HXL : Hid (xl.length = xn) := hx.1
    have hxb : xn ≤ 1048576 := hx.2.1
    clear hx
    unfold Sl.v
    simp only
    obtain ⟨i0, hi, hz0, hz1, hz2⟩ := info_parts Try.info5
    go_enter Try.func20, Try.ntmps20
    go_wp2_with (at_make; refine wpList_make_full _ rfl _ _ 29 rfl w.heap.size 5 i0 _ 1 Try.underlying29 hi hz0 hz1 .i64 .i64 _ _ xn rfl rfl rfl rfl (by rw [hz2]; omega) (by unfold maxLen; omega) (Nat.le_refl _) ?_; intro w0 hown0 hgrow0)
    have HO : Hid (w0.ownsRow w.heap.size 5 1 (.slice (some ⟨w.heap.size, 0, none⟩) xn xn) xn _) := hown0
    have HB0 : Hid (Below w.heap.size w w0) := grown_below hgrow0 (Nat.le_refl _) (fun k h => by cases h)
    clear hown0 hgrow0 hi hz0 hz1 hz2
    go_loopw [4] (fun i wr => ∃ (k : Nat) (xs : List Value), k ≤ xn ∧ i = .int .i64 k ∧ Hid (wr.ownsRow w.heap.size 5 1 (.slice (some ⟨w.heap.size, 0, none⟩) xn xn) xn xs) ∧ Hid (∀ j b, j < k → xl[j]? = some b → xs[j]? = some (.int .u8 (b.toNat : Int))) ∧ Hid (Below w.heap.size w wr)) (fun i _ => xn - (intOf i).toNat)
    case atStart => exact ⟨0, _, by omega, rfl, HO, fun j b h => by omega, HB0⟩
    case round =>
      obtain ⟨k, xs, hk, rfl, hown, hfil, HB⟩ := hrel
      by_cases hlt : k < xn
      · obtain ⟨b1, hb1⟩ : ∃ b, xl[k]? = some b := ⟨xl[k]'(by rw [HXL.out]; omega), by simp⟩
        obtain ⟨g1, o1, e1, c1⟩ := HX.out.2.2.2 k b1 hb1
        simp only [Option.some.injEq] at e1
        subst e1
        have hbl : g1 < w.heap.size := World.block_lt_of_cell? w _ c1
        replace c1 := (HB.out.cell (p := ⟨g1, o1 + k, none⟩) hbl).trans c1
        have hxl : xs.length = xn * 1 := hown.out.1
        obtain ⟨v0, t0⟩ : ∃ v, wr.cell? ⟨w.heap.size, k, none⟩ = some v := ⟨xs[k]'(by omega), by rw [hown.out.cellAt _ (by omega)]; simp⟩
        have f0 := hown.out.frozenAt k
        have HK : Hid (xl[k]? = some b1) := hb1
        clear hb1
        have i1k : (k : Int) < xn := by omega
        go_wp2
        go_roundw
        case rel => exact ⟨k + 1, _, by omega, by go_num, (hown.out.stored _ _).1, fun j b hj hjb => by
          rw [List.getElem?_set]
          by_cases e : k = j
          · subst e
            rw [if_pos rfl, if_pos (by omega)]
            rw [HK.out] at hjb
            cases hjb
            rfl
          · rw [if_neg e]
            exact hfil.out j b (by omega) hjb, HB.out.setCell (Nat.le_refl _) _⟩
        case measure => go_light; simp only [intOf]; omega
      · obtain rfl : k = xn := by omega
        go_wp2
        go_ret
        refine ⟨⟨some ⟨w.heap.size, 0, none⟩, k, k, xl⟩, rfl, ⟨HXL.out, hxb, fun h => (by cases h), fun j b hj => ⟨w.heap.size, 0, rfl, ?_⟩⟩, rfl, rfl, fun ad h => (by cases h; exact Nat.le_refl _), HB.out⟩
        have hjl : j < xl.length := by
          rcases Nat.lt_or_ge j xl.length with h | h
          · exact h
          · simp only at hj; rw [List.getElem?_eq_none h] at hj; cases hj
        rw [Nat.zero_add, hown.out.cellAt _ (by rw [HXL.out] at hjl; omega)]
        exact hfil.out j b (by rw [HXL.out] at hjl; omega) hj

set_option maxHeartbeats 2000000 in
theorem holds21 (f t k : Sl) (w : World) (hf : SlAt w f) (ht : SlAt w t) (hk : SlAt w k) : Calls Try.prog 21 #[f.v, t.v, k.v] w fun e w' => e = .returned (.bool (hasK (f.l, t.pb) k.l)) ∧ ∃ n, w' = w.drewN n := by
  have h1 := cmpb16 f k w hf hk
  have h2 : ∀ n, Calls Try.prog 16 #[k.v, t.v] (w.drewN n) fun e w' => e = .returned (.int .i64 (cb k.l t.l)) ∧ ∃ n', w' = (w.drewN n).drewN n' := fun n => cmpb16 k t (w.drewN n) hk ht
  simp only [hasK]
  obtain ⟨r1, hr1⟩ : ∃ r, r = cb f.l k.l := ⟨_, rfl⟩
  obtain ⟨r2, hr2⟩ : ∃ r, r = cb k.l t.l := ⟨_, rfl⟩
  rw [← hr1] at h1 ⊢
  rw [← hr2] at h2
  obtain ⟨ta, tn, tc, tl⟩ := t
  by_cases hle : r1 ≤ 0
  · cases ta with
    | none =>
      have hb : ltB k.l (Sl.pb ⟨none, tn, tc, tl⟩) = true := rfl
      rw [hb, Bool.and_true]
      rw [ht.none] at h2 ⊢
      clear hr1 hr2 hf ht hk hb
      unfold nilS Sl.v at *
      go_enter Try.func21, Try.ntmps21
      go_wp2_with (first | (go_at_call 16; refine h1.mono ?_; rintro e w' ⟨rfl, n1, rfl⟩))
      go_ret
      exact ⟨by simp [hle], _, rfl⟩
    | some ta =>
      have hb : ltB k.l (Sl.pb ⟨some ta, tn, tc, tl⟩) = decide (r2 < 0) := by rw [hr2]; rfl
      rw [hb]
      clear hr1 hr2 hf ht hk hb
      unfold Sl.v at *
      go_enter Try.func21, Try.ntmps21
      go_wp2_with fail
      refine h1.mono ?_
      rintro e w' ⟨rfl, n1, rfl⟩
      go_wp2_with fail
      refine (h2 _).mono ?_
      rintro e w' ⟨rfl, n2, rfl⟩
      go_wp2
      go_ret
      exact ⟨by simp [hle], _, rfl⟩
  · have hd : decide (r1 ≤ 0) = false := decide_eq_false hle
    rw [hd, Bool.false_and]
    clear hr1 hr2 hf ht hk
    unfold Sl.v at *
    go_enter Try.func21, Try.ntmps21
    go_wp2_with (first | (go_at_call 16; refine h1.mono ?_; rintro e w' ⟨rfl, n1, rfl⟩))
    go_ret
    exact ⟨rfl, _, rfl⟩
end Go.Proofs.Qxb6600979a
