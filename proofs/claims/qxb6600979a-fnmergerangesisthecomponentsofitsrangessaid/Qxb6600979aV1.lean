import Derived.Test.Qxb6600979aPC
namespace Go.Proofs.Qxb6600979a
open Go.RowKit
set_option linter.unusedVariables false

set_option maxHeartbeats 2000000 in
theorem bytes8 (a : Option Addr) (N c : Nat) (xs : List (Sl × Sl)) (w : World) (HN : Hid (N = xs.length)) (hN : N ≤ maxLen) (hr : RowR w a xs) (hl : Lens xs) :
    Calls Try.prog 8 #[.slice a N c] w fun e w' => BoolR e ∧ w' = w := by
  have HR : Hid (RowR w a xs) := hr
  have HL : Hid (Lens xs) := hl
  clear hr hl
  unfold maxLen at hN
  rcases Nat.lt_or_ge 1048576 N with h0 | h0
  · have j0 : (1048576 : Int) < N := by omega
    go_enter Try.func8, Try.ntmps8
    go_wp2
    go_ret
    exact ⟨⟨_, rfl⟩, rfl⟩
  have j0 : ¬ (1048576 : Int) < N := by omega
  go_enter Try.func8, Try.ntmps8
  go_wp2
  go_loopw [3, 4] (fun z i wr => ∃ (k : Nat) (q : Int), k ≤ N ∧ i = .int .i64 k ∧ z = .int .i64 q ∧ 0 ≤ q ∧ q ≤ 1048576 ∧ Hid (wr = w)) (fun z i _ => N - (intOf i).toNat)
  case atStart => exact ⟨0, N, by omega, rfl, rfl, by omega, by omega, rfl⟩
  case round =>
    obtain ⟨k, q, hk, rfl, rfl, hq0, hq1, HW⟩ := hrel
    obtain rfl := HW.out
    by_cases hlt : k < N
    · obtain ⟨p, hp⟩ : ∃ p, xs[k]? = some p := ⟨xs[k]'(by rw [← HN.out]; exact hlt), by simp⟩
      obtain ⟨b, o, rfl, c1, c2⟩ := HR.out k p hp
      have hb := HL.out p (List.mem_of_getElem? hp)
      clear hp
      obtain ⟨⟨xa, xn, xc, xl⟩, ⟨ya, yn, yc, yl⟩⟩ := p
      unfold Sl.v at c1 c2
      simp only at c1 c2 hb
      unfold maxLen at hb
      have ik : (k : Int) < N := by omega
      rcases Nat.lt_or_ge 1048576 xn with h1 | h1
      · have j1 : (1048576 : Int) < xn := by omega
        go_wp2
        go_ret
        exact ⟨⟨_, rfl⟩, rfl⟩
      have j1 : ¬ (1048576 : Int) < xn := by omega
      by_cases h2 : (1048576 : Int) < q + xn
      · go_wp2
        go_ret
        exact ⟨⟨_, rfl⟩, rfl⟩
      rcases Nat.lt_or_ge 1048576 yn with h3 | h3
      · have j3 : (1048576 : Int) < yn := by omega
        go_wp2
        go_ret
        exact ⟨⟨_, rfl⟩, rfl⟩
      have j3 : ¬ (1048576 : Int) < yn := by omega
      by_cases h4 : (1048576 : Int) < q + xn + yn
      · go_wp2
        go_ret
        exact ⟨⟨_, rfl⟩, rfl⟩
      go_wp2
      go_roundw
      case rel => exact ⟨k + 1, q + xn + yn, by omega, by go_num, by go_num, by omega, by omega, trivial⟩
      case measure => go_light; simp only [intOf]; omega
    · have hkN : k = N := by omega
      go_wp2
      all_goals go_ret
      all_goals exact ⟨⟨_, rfl⟩, rfl⟩

set_option maxHeartbeats 2000000 in
theorem same23 (x y : Sl) (w : World) (hx : SlAt w x) (hy : SlAt w y) : Calls Try.prog 23 #[x.v, y.v] w fun e w' => e = .returned (.bool (decide (x.l = y.l))) ∧ ∃ n, w' = w.drewN n := by
  obtain ⟨xa, xn, xc, xl⟩ := x
  obtain ⟨ya, yn, yc, yl⟩ := y
  have HX : Hid (SlAt w ⟨xa, xn, xc, xl⟩) := hx
  have HY : Hid (SlAt w ⟨ya, yn, yc, yl⟩) := hy
  have HXL : Hid (xl.length = xn) := hx.1
  have HYL : Hid (yl.length = yn) := hy.1
  have hxb : xn ≤ 1048576 := hx.2.1
  have hyb : yn ≤ 1048576 := hy.2.1
  clear hx hy
  simp only
  unfold Sl.v
  simp only
  by_cases hne : xn = yn
  · subst hne
    go_enter Try.func23, Try.ntmps23
    go_wp2
    go_loopw [5] (fun i wr => ∃ (k : Nat), k ≤ xn ∧ i = .int .i64 k ∧ Hid (xl.take k = yl.take k) ∧ Hid (∃ nd, wr = w.drewN nd)) (fun i _ => xn - (intOf i).toNat)
    case atStart => exact ⟨0, by omega, rfl, by unfold Hid; simp, 0, rfl⟩
    case round =>
      obtain ⟨k, hk, rfl, HE, HD⟩ := hrel
      by_cases hlt : k < xn
      · have ix : (k : Int) < xn := by omega
        obtain ⟨b1, hb1⟩ : ∃ b, xl[k]? = some b := ⟨xl[k]'(by rw [HXL.out]; omega), by simp⟩
        obtain ⟨b2, hb2⟩ : ∃ b, yl[k]? = some b := ⟨yl[k]'(by rw [HYL.out]; omega), by simp⟩
        obtain ⟨g1, o1, e1, c1⟩ := HX.out.2.2.2 k b1 hb1
        obtain ⟨g2, o2, e2, c2⟩ := HY.out.2.2.2 k b2 hb2
        have HB1 : Hid (xl[k]? = some b1) := hb1
        have HB2 : Hid (yl[k]? = some b2) := hb2
        simp only at e1 e2
        subst e1 e2
        have c1 : wr.cell? ⟨g1, o1 + k, none⟩ = some (.int .u8 (b1.toNat : Int)) := by obtain ⟨nd, e⟩ := HD.out; rw [e]; exact c1
        have c2 : wr.cell? ⟨g2, o2 + k, none⟩ = some (.int .u8 (b2.toNat : Int)) := by obtain ⟨nd, e⟩ := HD.out; rw [e]; exact c2
        clear hb1 hb2
        go_wp2
        go_quiet (fail)
        go_wp2
        · rename_i hd
          go_ret
          refine ⟨?_, by obtain ⟨nd, e⟩ := HD.out; exact ⟨nd + nq, by rw [e, drewN_add]⟩⟩
          have : decide (xl = yl) = false := decide_eq_false fun e => by
            have h1 := HB1.out
            rw [e, HB2.out] at h1
            cases h1
            simp at hd
          rw [this]
          rfl
        · rename_i hd
          go_roundw
          case rel => exact ⟨k + 1, by omega, by go_num, by
            unfold Hid
            rw [List.take_add_one, List.take_add_one, HE.out, HB1.out, HB2.out]
            have : b1 = b2 := UInt8.toNat_inj.mp (by have := bne_eq_false_iff_eq.mp hd; omega)
            rw [this], by obtain ⟨nd, e⟩ := HD.out; exact ⟨nd + nq, by rw [e, drewN_add]⟩⟩
          case measure => go_light; simp only [intOf]; omega
      · have hkx : k = xn := by omega
        have hE := HE.out
        rw [hkx, List.take_of_length_le (by rw [HXL.out]; exact Nat.le_refl _), List.take_of_length_le (by rw [HYL.out]; exact Nat.le_refl _)] at hE
        clear hkx
        go_wp2
        go_ret
        refine ⟨?_, HD.out⟩
        have : decide (xl = yl) = true := decide_eq_true hE
        rw [this]
        rfl
  · have hn : ((xn : Int) != yn) = true := by simp; omega
    go_enter Try.func23, Try.ntmps23
    go_wp2
    go_ret
    refine ⟨?_, 0, rfl⟩
    have : decide (xl = yl) = false := decide_eq_false fun e => hne (by rw [← HXL.out, ← HYL.out, e])
    rw [this]
    rfl

/-- x inside the range f..t, as a test. -/
def inB : Option (List UInt8) → Option (List UInt8) → Bool
  | none, _ => true
  | some _, none => false
  | some u, some v => decide (cb v u ≤ 0)
def wthB (f : List UInt8) (t : Option (List UInt8)) (x : Rg) : Bool := decide (cb f x.1 ≤ 0) && inB t x.2
theorem wthB_iff (f : List UInt8) (t : Option (List UInt8)) (x : Rg) : wthB f t x = true ↔ Wth (f, t) x := by
  obtain ⟨g, v⟩ := x
  cases t <;> cases v <;> simp [wthB, inB, Wth]

set_option maxHeartbeats 4000000 in
theorem within29 (f t : Sl) (p : Sl × Sl) (w : World) (hf : SlAt w f) (ht : SlAt w t) (hp1 : SlAt w p.1) (hp2 : SlAt w p.2) : Calls Try.prog 29 #[f.v, t.v, rv p] w fun e w' => e = .returned (.bool (wthB f.l t.pb (pl p))) ∧ Below w.heap.size w w' := by
  have hB : ∀ o n, Below w.heap.size w ((w.alloc o).drewN n) := fun o n => below_drewN ((Below.refl _ _).alloc (Nat.le_refl _) _) _
  have h1 : ∀ o, Calls Try.prog 16 #[f.v, p.1.v] (w.alloc o) fun e w' => e = .returned (.int .i64 (cb f.l p.1.l)) ∧ ∃ n, w' = (w.alloc o).drewN n := fun o => cmpb16 f p.1 (w.alloc o) (hf.below (hB o 0)) (hp1.below (hB o 0))
  have h2 : ∀ o n, Calls Try.prog 16 #[p.2.v, t.v] ((w.alloc o).drewN n) fun e w' => e = .returned (.int .i64 (cb p.2.l t.l)) ∧ ∃ n', w' = ((w.alloc o).drewN n).drewN n' := fun o n => cmpb16 p.2 t _ (hp2.below (hB o n)) (ht.below (hB o n))
  have e : wthB f.l t.pb (pl p) = (decide (cb f.l p.1.l ≤ 0) && inB t.pb p.2.pb) := rfl
  rw [e]
  clear e
  obtain ⟨r1, hr1⟩ : ∃ r, r = cb f.l p.1.l := ⟨_, rfl⟩
  obtain ⟨r2, hr2⟩ : ∃ r, r = cb p.2.l t.l := ⟨_, rfl⟩
  rw [← hr1] at h1 ⊢
  rw [← hr2] at h2
  obtain ⟨⟨xa, xn, xc, xl⟩, ⟨ya, yn, yc, yl⟩⟩ := p
  obtain ⟨ta, tn, tc, tl⟩ := t
  by_cases hle : r1 ≤ 0
  · have hgt : ¬ 0 < r1 := by omega
    have hd : decide (r1 ≤ 0) = true := decide_eq_true hle
    rw [hd, Bool.true_and]
    cases ta with
    | none =>
      have e0 := ht.none
      simp only [Sl.pb, Option.isNone_none, if_true, inB]
      rw [e0] at h2 ⊢
      clear hr1 hr2 hf ht hp1 hp2 e0
      unfold nilS rv Sl.v at *
      go_enter Try.func29, Try.ntmps29
      go_wp2_with fail
      refine (h1 _).mono ?_
      rintro e w' ⟨rfl, n1, rfl⟩
      go_wp2
      go_ret
      exact ⟨rfl, hB _ _⟩
    | some ta =>
      cases ya with
      | none =>
        have e0 := hp2.none
        simp only [Sl.pb, Option.isNone_none, Option.isNone_some, if_true, Bool.false_eq_true, if_false, inB]
        rw [e0] at h2 ⊢
        clear hr1 hr2 hf ht hp1 hp2 e0
        unfold nilS rv Sl.v at *
        go_enter Try.func29, Try.ntmps29
        go_wp2_with fail
        refine (h1 _).mono ?_
        rintro e w' ⟨rfl, n1, rfl⟩
        go_wp2
        go_ret
        exact ⟨rfl, hB _ _⟩
      | some ya =>
        simp only [Sl.pb, Option.isNone_some, Bool.false_eq_true, if_false, inB]
        simp only at hr2
        rw [← hr2]
        clear hr1 hr2 hf ht hp1 hp2
        unfold rv Sl.v at *
        go_enter Try.func29, Try.ntmps29
        go_wp2_with fail
        refine (h1 _).mono ?_
        rintro e w' ⟨rfl, n1, rfl⟩
        go_wp2_with fail
        refine (h2 _ _).mono ?_
        rintro e w' ⟨rfl, n2, rfl⟩
        go_wp2
        go_ret
        exact ⟨rfl, hB _ _⟩
  · have hgt : 0 < r1 := by omega
    have hd : decide (r1 ≤ 0) = false := decide_eq_false hle
    rw [hd, Bool.false_and]
    clear hr1 hr2 hf ht hp1 hp2
    unfold rv Sl.v at *
    go_enter Try.func29, Try.ntmps29
    go_wp2_with fail
    refine (h1 _).mono ?_
    rintro e w' ⟨rfl, n1, rfl⟩
    go_wp2
    go_ret
    exact ⟨rfl, hB _ _⟩
end Go.Proofs.Qxb6600979a
