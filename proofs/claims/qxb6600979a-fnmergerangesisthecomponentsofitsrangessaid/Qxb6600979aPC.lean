/- The merged ranges are the components of the ranges: plain lists. -/
import Derived.Test.Qxb6600979aPK
namespace Go.Proofs.Qxb6600979a
set_option linter.unusedVariables false

def Proper (p : Rg) : Prop := ∀ u, p.2 = some u → cb p.1 u ≤ 0
/-- x lies inside p. -/
def Wth (p x : Rg) : Prop := cb p.1 x.1 ≤ 0 ∧ ∀ u, p.2 = some u → ∃ v, x.2 = some v ∧ cb v u ≤ 0
def gtP (o : Option (List UInt8)) (u : List UInt8) : Prop := ∀ v, o = some v → cb u v < 0
def Sep (p q : Rg) : Prop := ∃ u, p.2 = some u ∧ cb u q.1 < 0
def Cov (D : List Rg) (p : Rg) : Prop :=
  (∃ x ∈ D, Wth p x ∧ x.1 = p.1) ∧ (∃ x ∈ D, Wth p x ∧ x.2 = p.2) ∧ ∀ x ∈ D, Wth p x → ∀ u, x.2 = some u → x.2 ≠ p.2 → ∃ y ∈ D, Wth p y ∧ cb y.1 u ≤ 0 ∧ gtP y.2 u
structure Inv (R D : List Rg) : Prop where
  proper : ∀ p ∈ R, Proper p
  sep : R.Pairwise Sep
  ins : ∀ x ∈ D, ∃ p ∈ R, Wth p x
  cov : ∀ p ∈ R, Cov D p

theorem Wth.self (p : Rg) : Wth p p := ⟨by rw [cb_self]; exact Int.le_refl _, fun u h => ⟨u, h, by rw [cb_self]; exact Int.le_refl _⟩⟩
/-- What lies behind the range q is not inside it. -/
theorem not_wth {q x : Rg} {v : List UInt8} (hq : q.2 = some v) (hx : Proper x) (h : cb v x.1 < 0) : ¬ Wth q x := by
  rintro ⟨_, hw⟩
  obtain ⟨t, ht, htv⟩ := hw v hq
  have h1 := hx t ht
  have h2 := cb_lt_le h h1
  have h3 := cb_neg v t
  omega
theorem ltr_cases (a b : Option (List UInt8)) : (ltr a b = b ∧ ∃ x, a = some x ∧ gtP b x) ∨ (ltr a b = a ∧ ∀ x, a = some x → ∃ y, b = some y ∧ cb y x ≤ 0) := by
  cases a with
  | none => exact .inr ⟨rfl, fun x h => by cases h⟩
  | some x =>
    cases b with
    | none => exact .inl ⟨rfl, x, rfl, fun v h => by cases h⟩
    | some y =>
      by_cases h : cb x y < 0
      · exact .inl ⟨by simp [ltr, eb, h], x, rfl, fun v e => by cases e; exact h⟩
      · exact .inr ⟨by simp [ltr, eb, h], fun z e => by cases e; exact ⟨y, rfl, cb_ge h⟩⟩
/-- The merged range holds what either held. -/
theorem wth_ltr_left {p x : Rg} {b : Option (List UInt8)} (h : Wth p x) : Wth (p.1, ltr p.2 b) x := by
  refine ⟨h.1, fun u hu => ?_⟩
  simp only at hu
  rcases ltr_cases p.2 b with ⟨e, z, hz, hg⟩ | ⟨e, _⟩
  · rw [e] at hu
    obtain ⟨v, hv, hvz⟩ := h.2 z hz
    exact ⟨v, hv, by have := cb_le_lt hvz (hg u hu); omega⟩
  · rw [e] at hu
    exact h.2 u hu
theorem wth_ltr_right {p r : Rg} (h : cb p.1 r.1 ≤ 0) : Wth (p.1, ltr p.2 r.2) r := by
  refine ⟨h, fun u hu => ?_⟩
  simp only at hu
  rcases ltr_cases p.2 r.2 with ⟨e, _⟩ | ⟨e, hy⟩
  · rw [e] at hu
    exact ⟨u, hu, by rw [cb_self]; exact Int.le_refl _⟩
  · rw [e] at hu
    obtain ⟨y, hy1, hy2⟩ := hy u hu
    exact ⟨y, hy1, hy2⟩

theorem Cov.more {D : List Rg} {p r : Rg} (h : Cov D p) (hr : ¬ Wth p r) : Cov (D ++ [r]) p := by
  obtain ⟨⟨x, hx, h1⟩, ⟨y, hy, h2⟩, h3⟩ := h
  refine ⟨⟨x, by simp [hx], h1⟩, ⟨y, by simp [hy], h2⟩, fun z hz hw u hu hne => ?_⟩
  simp only [List.mem_append, List.mem_singleton] at hz
  rcases hz with hz | rfl
  · obtain ⟨t, ht, h4⟩ := h3 z hz hw u hu hne
    exact ⟨t, by simp [ht], h4⟩
  · exact absurd hw hr

theorem inv_step {R D : List Rg} {r : Rg} (h : Inv R D) (hD : ∀ x ∈ D, Proper x) (hr : Proper r) (hle : ∀ x ∈ D, cb x.1 r.1 ≤ 0) : Inv (rstep R r) (D ++ [r]) := by
  have hRr : ∀ p ∈ R, cb p.1 r.1 ≤ 0 := fun p hp => by
    obtain ⟨⟨x, hx, _, e⟩, _⟩ := h.cov p hp
    rw [← e]; exact hle x hx
  rcases List.eq_nil_or_concat R with rfl | ⟨R0, p, hRe⟩
  · have hDn : D = [] := by
      cases D with
      | nil => rfl
      | cons x D => obtain ⟨p, hp, _⟩ := h.ins x (by simp); cases hp
    subst hDn
    rw [rstep_nil]
    refine ⟨fun p hp => ?_, List.pairwise_singleton _ _, fun x hx => ?_, fun p hp => ?_⟩
    · simp at hp; subst hp; exact hr
    · simp at hx; subst hx; exact ⟨x, by simp, Wth.self x⟩
    · simp at hp; subst hp
      refine ⟨⟨p, by simp, Wth.self p, rfl⟩, ⟨p, by simp, Wth.self p, rfl⟩, fun x hx _ u hu hne => ?_⟩
      simp at hx; subst hx; exact absurd rfl hne
  · rw [List.concat_eq_append] at hRe
    subst hRe
    have hpr : cb p.1 r.1 ≤ 0 := hRr p (by simp)
    have hsep := List.pairwise_append.mp h.sep
    have hsp : ∀ q ∈ R0, ∃ v, q.2 = some v ∧ cb v p.1 < 0 := fun q hq => hsep.2.2 q hq p (by simp)
    -- a range of D that lies inside an earlier one lies before p
    have hno : ∀ x ∈ D, ∀ q ∈ R0, Wth q x → ∃ v, cb x.1 v ≤ 0 ∧ cb v p.1 < 0 := fun x hx q hq hw => by
      obtain ⟨v, hv, hvp⟩ := hsp q hq
      obtain ⟨t, ht, htv⟩ := hw.2 v hv
      exact ⟨v, cb_trans _ _ _ (hD x hx t ht) htv, hvp⟩
    have hq0 : ∀ q ∈ R0, ¬ Wth q r := fun q hq => by
      obtain ⟨v, hv, hvp⟩ := hsp q hq
      exact not_wth hv hr (cb_lt_le hvp hpr)
    cases hm : mts p r with
    | true =>
      rw [rstep_yes hm]
      have hm' := (mts_iff p r).mp hm
      show Inv (R0 ++ [(p.1, ltr p.2 r.2)]) (D ++ [r])
      obtain ⟨⟨xA, hxA, hwA, heA⟩, ⟨xB, hxB, hwB, heB⟩, hC⟩ := h.cov p (by simp)
      refine ⟨fun q hq => ?_, ?_, fun x hx => ?_, fun q hq => ?_⟩
      · simp only [List.mem_append, List.mem_singleton] at hq
        rcases hq with hq | rfl
        · exact h.proper q (by simp [hq])
        · intro u hu
          simp only at hu ⊢
          rcases ltr_cases p.2 r.2 with ⟨e, _⟩ | ⟨e, _⟩
          · rw [e] at hu; exact cb_trans _ _ _ hpr (hr u hu)
          · rw [e] at hu; exact h.proper p (by simp) u hu
      · rw [List.pairwise_append]
        exact ⟨hsep.1, List.pairwise_singleton _ _, fun a ha b hb => by
          simp at hb; subst hb; exact hsep.2.2 a ha p (by simp)⟩
      · simp only [List.mem_append, List.mem_singleton] at hx
        rcases hx with hx | rfl
        · obtain ⟨q, hq, hw⟩ := h.ins x hx
          simp only [List.mem_append, List.mem_singleton] at hq
          rcases hq with hq | rfl
          · exact ⟨q, by simp [hq], hw⟩
          · exact ⟨(q.1, ltr q.2 r.2), by simp, wth_ltr_left hw⟩
        · exact ⟨_, by simp, wth_ltr_right hpr⟩
      · simp only [List.mem_append, List.mem_singleton] at hq
        rcases hq with hq | rfl
        · exact (h.cov q (by simp [hq])).more (hq0 q hq)
        · refine ⟨⟨xA, by simp [hxA], wth_ltr_left hwA, heA⟩, ?_, ?_⟩
          · rcases ltr_cases p.2 r.2 with ⟨e, _⟩ | ⟨e, _⟩
            · exact ⟨r, by simp, wth_ltr_right hpr, by simp only; rw [e]⟩
            · exact ⟨xB, by simp [hxB], wth_ltr_left hwB, by simp only; rw [e]; exact heB⟩
          · intro x hx hw u hu hne
            simp only at hne
            simp only [List.mem_append, List.mem_singleton] at hx
            rcases hx with hx | rfl
            · obtain ⟨q, hq, hwq⟩ := h.ins x hx
              simp only [List.mem_append, List.mem_singleton] at hq
              rcases hq with hq | rfl
              · obtain ⟨v, hv1, hv2⟩ := hno x hx q hq hwq
                have h1 := hw.1
                simp only at h1
                have h2 := cb_lt_le (cb_le_lt hv1 hv2) h1
                rw [cb_self] at h2
                omega
              · by_cases he : x.2 = q.2
                · rcases ltr_cases q.2 r.2 with ⟨e, z, hz, hg⟩ | ⟨e, _⟩
                  · rw [he, hz] at hu
                    cases hu
                    exact ⟨r, by simp, wth_ltr_right hpr, hm'.1 u hz, hg⟩
                  · rw [e] at hne; exact absurd he hne
                · obtain ⟨y, hy, hwy, h4, h5⟩ := hC x hx hwq u hu he
                  exact ⟨y, by simp [hy], wth_ltr_left hwy, h4, h5⟩
            · rcases ltr_cases p.2 x.2 with ⟨e, _⟩ | ⟨e, hy⟩
              · exact absurd e.symm hne
              · refine ⟨xB, by simp [hxB], wth_ltr_left hwB, cb_trans _ _ _ (hle xB hxB) (hr u hu), ?_⟩
                rw [heB]
                intro v hv
                obtain ⟨y, hy1, hy2⟩ := hy v hv
                rw [hu] at hy1
                cases hy1
                have hne' : cb u v ≠ 0 := fun e0 => hne (by rw [e, hu, hv, cb_eq u v e0])
                omega
    | false =>
      rw [rstep_no hm]
      obtain ⟨u, hu, hur⟩ : ∃ u, p.2 = some u ∧ cb u r.1 < 0 := by
        cases hp2 : p.2 with
        | none =>
          exfalso
          have : mts p r = true := (mts_iff p r).mpr ⟨fun t ht => (by rw [hp2] at ht; cases ht), fun t ht => cb_trans _ _ _ hpr (hr t ht)⟩
          rw [this] at hm; cases hm
        | some u =>
          refine ⟨u, rfl, ?_⟩
          by_cases hle' : cb r.1 u ≤ 0
          · exfalso
            have : mts p r = true := (mts_iff p r).mpr ⟨fun t ht => (by rw [hp2] at ht; cases ht; exact hle'), fun t ht => cb_trans _ _ _ hpr (hr t ht)⟩
            rw [this] at hm; cases hm
          · exact cb_gt hle'
      have hsepr : ∀ q ∈ R0 ++ [p], ∃ v, q.2 = some v ∧ cb v r.1 < 0 := fun q hq => by
        simp only [List.mem_append, List.mem_singleton] at hq
        rcases hq with hq | rfl
        · obtain ⟨v, hv, hvp⟩ := hsp q hq
          exact ⟨v, hv, cb_lt_le hvp hpr⟩
        · exact ⟨u, hu, hur⟩
      refine ⟨fun q hq => ?_, ?_, fun x hx => ?_, fun q hq => ?_⟩
      · rw [List.mem_append, List.mem_singleton] at hq
        rcases hq with hq | rfl
        · exact h.proper q hq
        · exact hr
      · rw [List.pairwise_append]
        exact ⟨h.sep, List.pairwise_singleton _ _, fun a ha b hb => by
          simp at hb; subst hb; exact hsepr a ha⟩
      · rw [List.mem_append, List.mem_singleton] at hx
        rcases hx with hx | rfl
        · obtain ⟨q, hq, hw⟩ := h.ins x hx
          exact ⟨q, by rw [List.mem_append]; exact .inl hq, hw⟩
        · exact ⟨x, by simp, Wth.self x⟩
      · rw [List.mem_append, List.mem_singleton] at hq
        rcases hq with hq | rfl
        · obtain ⟨v, hv, hvr⟩ := hsepr q hq
          exact (h.cov q hq).more (not_wth hv hr hvr)
        · refine ⟨⟨q, by simp, Wth.self q, rfl⟩, ⟨q, by simp, Wth.self q, rfl⟩, fun x hx hw t ht hne => ?_⟩
          rw [List.mem_append, List.mem_singleton] at hx
          rcases hx with hx | rfl
          · exfalso
            obtain ⟨q', hq', hwq⟩ := h.ins x hx
            obtain ⟨v, hv, hvr⟩ := hsepr q' hq'
            obtain ⟨s, hs, hsv⟩ := hwq.2 v hv
            have h1 := cb_trans _ _ _ (hD x hx s hs) hsv
            have h2 := cb_lt_le (cb_le_lt h1 hvr) hw.1
            rw [cb_self] at h2
            omega
          · exact absurd rfl hne

theorem inv_fold : ∀ (xs R D : List Rg), Inv R D → (∀ x ∈ D, Proper x) → (∀ x ∈ xs, Proper x) → (∀ x ∈ D, ∀ y ∈ xs, cb x.1 y.1 ≤ 0) → xs.Pairwise (fun p q => cb p.1 q.1 ≤ 0) → Inv (xs.foldl rstep R) (D ++ xs)
  | [], R, D, h, _, _, _, _ => by simpa using h
  | x :: xs, R, D, h, hD, hx, hdx, hP => by
    rw [List.pairwise_cons] at hP
    have h1 := inv_step h hD (hx x (by simp)) (fun y hy => hdx y hy x (by simp))
    have h2 := inv_fold xs (rstep R x) (D ++ [x]) h1 (fun y hy => by
      simp only [List.mem_append, List.mem_singleton] at hy
      rcases hy with hy | rfl
      · exact hD y hy
      · exact hx y (by simp)) (fun y hy => hx y (by simp [hy])) (fun y hy z hz => by
      simp only [List.mem_append, List.mem_singleton] at hy
      rcases hy with hy | rfl
      · exact hdx y hy z (by simp [hz])
      · exact hP.1 z hz) hP.2
    rw [List.foldl_cons]
    simpa [List.append_assoc] using h2

/-- THE LAW OF THE COMPONENTS. -/
theorem comp_law (ys ys' : List (Sl × Sl)) (hp : ys'.Perm ys) (hs : Sorted ys') (hpr : ∀ p ∈ ys, Proper (pl p)) : Inv ((ys'.foldl mstep []).map pl) (ys.map pl) := by
  have h := inv_fold (ys'.map pl) [] [] ⟨fun p h => (by cases h), List.Pairwise.nil, fun x h => (by cases h), fun p h => (by cases h)⟩ (fun x h => by cases h) (fun x hx => by
    obtain ⟨p, hp', rfl⟩ := List.mem_map.mp hx
    exact hpr p (hp.mem_iff.mp hp')) (fun x h => by cases h) (by rw [List.pairwise_map]; exact hs)
  rw [List.nil_append] at h
  rw [fold_map, List.map_nil]
  have hm : ∀ x, x ∈ ys'.map pl ↔ x ∈ ys.map pl := fun x => (hp.map pl).mem_iff
  refine ⟨h.proper, h.sep, fun x hx => h.ins x ((hm x).mpr hx), fun p hp' => ?_⟩
  obtain ⟨⟨x, hx, h1⟩, ⟨y, hy, h2⟩, h3⟩ := h.cov p hp'
  refine ⟨⟨x, (hm x).mp hx, h1⟩, ⟨y, (hm y).mp hy, h2⟩, fun z hz hw u hu hne => ?_⟩
  obtain ⟨t, ht, h4⟩ := h3 z ((hm z).mpr hz) hw u hu hne
  exact ⟨t, (hm t).mp ht, h4⟩
end Go.Proofs.Qxb6600979a
