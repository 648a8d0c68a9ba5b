/- The merged ranges hold exactly the keys of the ranges: plain lists. -/
import Derived.Test.Qxb6600979aM
namespace Go.Proofs.Qxb6600979a
set_option linter.unusedVariables false

def rstep (R : List Rg) (r : Rg) : List Rg :=
  match R.getLast? with
  | none => R ++ [r]
  | some p => if mts p r = true then R.dropLast ++ [(p.1, if eb p.2 r.2 = true then r.2 else p.2)] else R ++ [r]

theorem rstep_map (M : List (Sl × Sl)) (r : Sl × Sl) : (mstep M r).map pl = rstep (M.map pl) (pl r) := by
  unfold mstep rstep
  rw [List.getLast?_map]
  cases h : M.getLast? with
  | none => simp
  | some p =>
    simp only [Option.map_some]
    split
    · rw [List.map_append, List.map_dropLast]
      simp only [List.map_cons, List.map_nil]
      congr 2
      unfold pl
      simp only
      split <;> rfl
    · simp
theorem fold_map : ∀ (xs M : List (Sl × Sl)), (xs.foldl mstep M).map pl = (xs.map pl).foldl rstep (M.map pl)
  | [], _ => rfl
  | x :: xs, M => by
    rw [List.foldl_cons, fold_map xs, rstep_map]
    rfl

theorem rstep_nil (r : Rg) : rstep [] r = [r] := rfl
theorem rstep_no {R : List Rg} {p r : Rg} (h : mts p r = false) : rstep (R ++ [p]) r = R ++ [p] ++ [r] := by
  unfold rstep
  rw [List.getLast?_concat]
  simp only [h, Bool.false_eq_true, if_false]
theorem rstep_yes {R : List Rg} {p r : Rg} (h : mts p r = true) : rstep (R ++ [p]) r = R ++ [(p.1, if eb p.2 r.2 = true then r.2 else p.2)] := by
  unfold rstep
  rw [List.getLast?_concat]
  simp only [h, if_true, List.dropLast_concat]

theorem hasK_iff (p : Rg) (k : List UInt8) : hasK p k = true ↔ cb p.1 k ≤ 0 ∧ ∀ t, p.2 = some t → cb k t < 0 := by
  obtain ⟨f, t⟩ := p
  cases t <;> simp [hasK, ltB]
theorem mts_iff (p r : Rg) : mts p r = true ↔ (∀ t, p.2 = some t → cb r.1 t ≤ 0) ∧ (∀ t, r.2 = some t → cb p.1 t ≤ 0) := by
  obtain ⟨f, t⟩ := p
  obtain ⟨f', t'⟩ := r
  cases t <;> cases t' <;> simp [mts, leB]
theorem cb_ge {x y : List UInt8} (h : ¬ cb x y < 0) : cb y x ≤ 0 := by have := cb_neg x y; omega
theorem cb_gt {x y : List UInt8} (h : ¬ cb x y ≤ 0) : cb y x < 0 := by have := cb_neg x y; omega

/-- The later of two upper bounds. -/
def ltr (a b : Option (List UInt8)) : Option (List UInt8) := if eb a b = true then b else a

theorem merge_keys {p r : Rg} (h : cb p.1 r.1 ≤ 0) (hm : mts p r = true) (k : List UInt8) : hasK (p.1, ltr p.2 r.2) k = (hasK p k || hasK r k) := by
  rw [Bool.eq_iff_iff, Bool.or_eq_true, hasK_iff, hasK_iff, hasK_iff]
  obtain ⟨m1, m2⟩ := (mts_iff p r).mp hm
  obtain ⟨f, t⟩ := p
  obtain ⟨g, u⟩ := r
  simp only at *
  cases t with
  | none =>
    simp only [ltr, eb, Bool.false_eq_true, if_false, reduceCtorEq, false_implies, implies_true, and_true]
    exact ⟨fun hk => .inl hk, fun hk => by
      rcases hk with hk | ⟨hk, _⟩
      · exact hk
      · exact cb_trans _ _ _ h hk⟩
  | some b =>
    have hb := m1 b rfl
    cases u with
    | none =>
      simp only [ltr, eb, if_true, reduceCtorEq, false_implies, implies_true, and_true, Option.some.injEq, forall_eq']
      constructor
      · intro hk
        by_cases hkb : cb k b < 0
        · exact .inl ⟨hk, hkb⟩
        · exact .inr (cb_trans _ _ _ hb (cb_ge hkb))
      · rintro (⟨hk, _⟩ | hk)
        · exact hk
        · exact cb_trans _ _ _ h hk
    | some d =>
      simp only [Option.some.injEq, forall_eq'] at *
      by_cases hbd : cb b d < 0
      · have e : ltr (some b) (some d) = some d := by simp [ltr, eb, hbd]
        rw [e]
        simp only [Option.some.injEq, forall_eq']
        constructor
        · rintro ⟨hk, hkd⟩
          by_cases hkb : cb k b < 0
          · exact .inl ⟨hk, hkb⟩
          · exact .inr ⟨cb_trans _ _ _ hb (cb_ge hkb), hkd⟩
        · rintro (⟨hk, hkb⟩ | ⟨hk, hkd⟩)
          · exact ⟨hk, cb_lt_le hkb (by omega)⟩
          · exact ⟨cb_trans _ _ _ h hk, hkd⟩
      · have e : ltr (some b) (some d) = some b := by simp [ltr, eb, hbd]
        rw [e]
        simp only [Option.some.injEq, forall_eq']
        constructor
        · exact fun hk => .inl hk
        · rintro (hk | ⟨hk, hkd⟩)
          · exact hk
          · exact ⟨cb_trans _ _ _ h hk, cb_lt_le hkd (cb_ge hbd)⟩

theorem keys_step (R : List Rg) (r : Rg) (h : ∀ p ∈ R, cb p.1 r.1 ≤ 0) (k : List UInt8) : (rstep R r).any (hasK · k) = (R.any (hasK · k) || hasK r k) := by
  rcases List.eq_nil_or_concat R with rfl | ⟨R0, p, rfl⟩
  · simp [rstep]
  · rw [List.concat_eq_append] at *
    cases hm : mts p r with
    | false => rw [rstep_no hm]; simp [Bool.or_assoc]
    | true =>
      rw [rstep_yes hm, List.any_append, List.any_append]
      simp only [List.any_cons, List.any_nil, Bool.or_false]
      have := merge_keys (h p (by simp)) hm k
      unfold ltr at this
      rw [this, Bool.or_assoc]
theorem from_step (R : List Rg) (r : Rg) : ∀ q ∈ rstep R r, (∃ p ∈ R, p.1 = q.1) ∨ q = r := by
  intro q hq
  rcases List.eq_nil_or_concat R with rfl | ⟨R0, p, rfl⟩
  · simp [rstep] at hq; exact .inr hq
  · rw [List.concat_eq_append] at *
    cases hm : mts p r with
    | false =>
      rw [rstep_no hm] at hq
      simp only [List.mem_append, List.mem_singleton] at hq
      rcases hq with hq | hq
      · exact .inl ⟨q, by simpa using hq, rfl⟩
      · exact .inr hq
    | true =>
      rw [rstep_yes hm] at hq
      simp only [List.mem_append, List.mem_singleton] at hq
      rcases hq with hq | rfl
      · exact .inl ⟨q, by simp [hq], rfl⟩
      · exact .inl ⟨p, by simp, rfl⟩

theorem keys_fold (k : List UInt8) : ∀ (xs R : List Rg), (∀ p ∈ R, ∀ x ∈ xs, cb p.1 x.1 ≤ 0) → xs.Pairwise (fun p q => cb p.1 q.1 ≤ 0) → (xs.foldl rstep R).any (hasK · k) = (R.any (hasK · k) || xs.any (hasK · k))
  | [], R, _, _ => by simp
  | x :: xs, R, hR, hP => by
    rw [List.pairwise_cons] at hP
    rw [List.foldl_cons, keys_fold k xs (rstep R x) ?_ hP.2, keys_step R x (fun p hp => hR p hp x (by simp)) k]
    · simp [Bool.or_assoc]
    · intro p hp y hy
      rcases from_step R x p hp with ⟨q, hq, e⟩ | rfl
      · rw [← e]; exact hR q hq y (by simp [hy])
      · exact hP.1 y hy

/-- THE LAW OF THE KEYS. -/
theorem keys_law (ys ys' : List (Sl × Sl)) (hp : ys'.Perm ys) (hs : Sorted ys') (k : List UInt8) : ((ys'.foldl mstep []).map pl).any (hasK · k) = (ys.map pl).any (hasK · k) := by
  rw [fold_map, List.map_nil, keys_fold k (ys'.map pl) [] (fun p h => by cases h) (by rw [List.pairwise_map]; exact hs)]
  simp only [List.any_nil, Bool.false_or]
  exact (hp.map pl).any_eq
end Go.Proofs.Qxb6600979a
