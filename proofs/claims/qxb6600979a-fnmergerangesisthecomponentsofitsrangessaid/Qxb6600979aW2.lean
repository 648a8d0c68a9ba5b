import Derived.Test.Qxb6600979aW1
namespace Go.Proofs.Qxb6600979a
open Go.RowKit
set_option linter.unusedVariables false

/-- x is not above the upper bound. -/
def leB (x : List UInt8) : Option (List UInt8) → Bool
  | none => true
  | some y => decide (cb x y ≤ 0)
def ltB (x : List UInt8) : Option (List UInt8) → Bool
  | none => true
  | some y => decide (cb x y < 0)
/-- A range in plain terms. -/
abbrev Rg := List UInt8 × Option (List UInt8)
def pl (p : Sl × Sl) : Rg := (p.1.l, p.2.pb)
def mts (p q : Rg) : Bool := leB q.1 p.2 && leB p.1 q.2
def hasK (p : Rg) (k : List UInt8) : Bool := decide (cb p.1 k ≤ 0) && ltB k p.2

set_option maxHeartbeats 2000000 in
theorem meets35 (p q : Sl × Sl) (w : World) (hp1 : SlAt w p.1) (hp2 : SlAt w p.2) (hq1 : SlAt w q.1) (hq2 : SlAt w q.2) :
    Calls Try.prog 35 #[rv p, rv q] w fun e w' => e = .returned (.bool (mts (pl p) (pl q))) ∧ ∃ o1 o2, w' = (w.alloc o1).alloc o2 := by
  have hB : ∀ o1 o2, Below w.heap.size w ((w.alloc o1).alloc o2) := fun o1 o2 => ((Below.refl _ _).alloc (Nat.le_refl _) _).alloc (by simp) _
  have h1 : ∀ o1 o2, Calls Try.prog 34 #[q.1.v, p.2.v] ((w.alloc o1).alloc o2) fun e w' => e = .returned (.int .i64 (cb q.1.l p.2.l)) ∧ w' = (w.alloc o1).alloc o2 := fun o1 o2 => cmp34 _ _ _ (hq1.below (hB _ _)) (hp2.below (hB _ _))
  have h2 : ∀ o1 o2, Calls Try.prog 34 #[p.1.v, q.2.v] ((w.alloc o1).alloc o2) fun e w' => e = .returned (.int .i64 (cb p.1.l q.2.l)) ∧ w' = (w.alloc o1).alloc o2 := fun o1 o2 => cmp34 _ _ _ (hp1.below (hB _ _)) (hq2.below (hB _ _))
  clear hB hp1 hq1
  obtain ⟨⟨xa, xn, xc, xl⟩, ⟨ya, yn, yc, yl⟩⟩ := p
  obtain ⟨⟨za, zn, zc, zl⟩, ⟨ua, un, uc, ul⟩⟩ := q
  simp only [mts, pl] at *
  obtain ⟨r1, hr1⟩ : ∃ r, r = cb zl yl := ⟨_, rfl⟩
  obtain ⟨r2, hr2⟩ : ∃ r, r = cb xl ul := ⟨_, rfl⟩
  rw [← hr1] at h1
  rw [← hr2] at h2
  cases ya with
  | none =>
    cases ua with
    | none =>
      simp only [Sl.pb, Option.isNone_none, if_true, leB, Bool.and_self]
      rw [hp2.none, hq2.none]
      unfold rv Sl.v nilS
      go_enter Try.func35, Try.ntmps35
      go_wp2
      go_ret
      exact ⟨rfl, _, _, rfl⟩
    | some ua =>
      simp only [Sl.pb, Option.isNone_none, Option.isNone_some, if_true, Bool.false_eq_true, if_false, leB, Bool.true_and, ← hr2]
      rw [hp2.none] at h1 ⊢
      clear hr1 hr2 hp2 hq2
      unfold rv Sl.v nilS at *
      go_enter Try.func35, Try.ntmps35
      go_wp2_with (first | (go_at_call 34; refine (h2 _ _).mono ?_; rintro e w' ⟨rfl, rfl⟩))
      go_ret
      exact ⟨rfl, _, _, rfl⟩
  | some ya =>
    by_cases hle : r1 ≤ 0
    · cases ua with
      | none =>
        simp only [Sl.pb, Option.isNone_none, Option.isNone_some, if_true, Bool.false_eq_true, if_false, leB, Bool.and_true, ← hr1]
        rw [hq2.none] at h2 ⊢
        clear hr1 hr2 hp2 hq2
        unfold rv Sl.v nilS at *
        go_enter Try.func35, Try.ntmps35
        go_wp2_with (first | (go_at_call 34; refine (h1 _ _).mono ?_; rintro e w' ⟨rfl, rfl⟩))
        go_ret
        exact ⟨by simp [hle], _, _, rfl⟩
      | some ua =>
        simp only [Sl.pb, Option.isNone_some, Bool.false_eq_true, if_false, leB, ← hr1, ← hr2]
        clear hr1 hr2 hp2 hq2
        unfold rv Sl.v at *
        go_enter Try.func35, Try.ntmps35
        go_wp2_with (first | (go_at_call 34; refine (h1 _ _).mono ?_; rintro e w' ⟨rfl, rfl⟩) | (go_at_call 34; refine (h2 _ _).mono ?_; rintro e w' ⟨rfl, rfl⟩))
        go_ret
        exact ⟨by simp [hle], _, _, rfl⟩
    · simp only [Sl.pb, Option.isNone_some, Bool.false_eq_true, if_false, leB, ← hr1]
      have hd : decide (r1 ≤ 0) = false := decide_eq_false hle
      rw [hd, Bool.false_and]
      clear hr1 hr2 hp2 hq2
      unfold rv Sl.v at *
      go_enter Try.func35, Try.ntmps35
      go_wp2_with (first | (go_at_call 34; refine (h1 _ _).mono ?_; rintro e w' ⟨rfl, rfl⟩))
      go_ret
      exact ⟨rfl, _, _, rfl⟩
end Go.Proofs.Qxb6600979a
