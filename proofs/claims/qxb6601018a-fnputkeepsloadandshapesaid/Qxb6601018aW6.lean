import Derived.Test.Qxb6601018aW5
namespace Go.Proofs.Qxb6601018a
open Go.RowKit
set_option linter.unusedVariables false

/-- The new table and the index's four cells. -/
structure St (B bx g S : Nat) (ps : List Pl) (n : Nat) (ov : Value) (nx : Nat) (w : World) : Prop where
  ix : Ix w bx (.slice (some ⟨g, 0, none⟩) S S) n ov nx
  rp : PRow w B g ps
  lp : ps.length = S
  oc : occ ps = n
  wp : Wf ps

/-- The old table of a move under way. -/
structure Old (B bx g S lim puts n nx go O eo P : Nat) (os : List Pl) (w : World) : Prop where
  row : PRow w B go os
  len : os.length = O
  wf : Wf os
  free : ∃ (f : Nat) (p : Pl), os[f]? = some p ∧ p.2 = 0
  pw : O = 2 ^ eo
  be : 3 ≤ eo ∧ eo ≤ 13
  half : 2 * O = S
  ne1 : bx ≠ go
  ne2 : g ≠ go
  lo : 4 * (P + 1) ≤ nx
  hi : nx < O
  tt : n + live os ≤ 3 * (O / 4) + 1 + P + lim
  pt : n + live os ≤ puts

def Rest (B bx g S lim puts n nx : Nat) (ov : Value) (w : World) : Prop :=
  ov = .slice none 0 0 ∨ ∃ (go O eo P : Nat) (os : List Pl), ov = .slice (some ⟨go, 0, none⟩) O O ∧ Old B bx g S lim puts n nx go O eo P os w

theorem relU (B bx g S lim puts : Nat) (ps : List Pl) (n nx : Nat) (ov : Value) (h : Nat) (w : World) (hh : h < 18446744073709551616) (hix : Ix w bx (.slice (some ⟨g, 0, none⟩) S S) n ov nx) (hr : PRow w B g ps) (hR : Rest B bx g S lim puts n nx ov w) (hB : B ≤ bx) :
    Calls Try.prog 49 #[.pointer (some ⟨bx, 0, none⟩), .int .u64 h] w fun e w' => e = .returned (.tuple #[]) ∧ Ix w' bx (.slice (some ⟨g, 0, none⟩) S S) n ov nx ∧ PRow w' B g ps ∧ Rest B bx g S lim puts n nx ov w' ∧ Below B w w' := by
  rcases hR with rfl | ⟨go, O, eo, P, os, rfl, o⟩
  · refine (release_nil bx _ n nx h w hix).mono ?_
    rintro e w' ⟨rfl, rfl⟩
    exact ⟨rfl, hix, hr, .inl rfl, Below.refl _ _⟩
  · obtain ⟨f, hf⟩ := o.free
    refine (release49 B bx go O eo os _ n nx h w hix o.len o.pw ⟨o.be.1, by have := o.be.2; omega⟩ hh o.row f hf o.wf o.ne1).mono ?_
    rintro e w' ⟨rfl, os', r, hro, hg⟩
    have hl := r.live
    have h1 := o.row.lt.1
    exact ⟨rfl, hix.kept hg (by simp [o.ne1]), hr.kept hg (by simp [o.ne2]), .inr ⟨go, O, eo, P, os', rfl, hro, by rw [r.len, o.len], r.wf, ⟨f, r.free⟩, o.pw, o.be, o.half, o.ne1, o.ne2, o.lo, o.hi, by have := o.tt; omega, by have := o.pt; omega⟩, grown_below hg (by have := hix.lt; omega) (by intro k hk; cases hk; exact h1)⟩

/-- What a step leaves within a put. -/
def StepU (B bx g S puts : Nat) (ov : Value) (w w' : World) : Prop :=
  Below B w w' ∧ ∃ (ps : List Pl) (n nx : Nat) (ov' : Value), St B bx g S ps n ov' nx w' ∧ n ≤ puts ∧
    ((ov' = .slice none 0 0 ∧ (n ≤ S / 4 * 3 ∨ (ov = .slice none 0 0 ∧ n = S / 4 * 3 + 1))) ∨
     (n ≤ S / 4 * 3 ∧ ∃ (go O eo P : Nat) (os : List Pl), ov' = .slice (some ⟨go, 0, none⟩) O O ∧ Old B bx g S 0 puts n nx go O eo P os w'))

theorem stepU (B bx g S puts e : Nat) (ps : List Pl) (n nx : Nat) (ov : Value) (w : World) (hs : St B bx g S ps n ov nx w) (hR : Rest B bx g S 1 puts n nx ov w) (hB : B ≤ bx) (h1 : bx ≠ g) (HE : Hid (S = 2 ^ e)) (he : 3 ≤ e ∧ e ≤ 13) (hn : n ≤ S / 4 * 3 + 1) (hp : n ≤ puts) :
    Calls Try.prog 48 #[.pointer (some ⟨bx, 0, none⟩)] w fun e w' => e = .returned (.tuple #[]) ∧ StepU B bx g S puts ov w w' := by
  rcases hR with rfl | ⟨go, O, eo, P, os, rfl, o⟩
  · refine (step_nil bx _ n nx w hs.ix).mono ?_
    rintro e w' ⟨rfl, rfl⟩
    exact ⟨rfl, Below.refl _ _, ps, n, nx, _, hs, hp, .inl ⟨rfl, (Nat.lt_or_ge n (S / 4 * 3 + 1)).elim (fun h' => .inl (by omega)) (fun h' => .inr ⟨rfl, by omega⟩)⟩⟩
  · have hO8 : O % 4 = 0 ∧ 8 ≤ O := by
      have := o.pw
      have e1 : 2 ^ eo = 2 ^ 3 * 2 ^ (eo - 3) := by rw [← Nat.pow_add, show 3 + (eo - 3) = eo from by have := o.be.1; omega]
      have e2 : 0 < 2 ^ (eo - 3) := Nat.two_pow_pos _
      omega
    have ht := o.tt
    have hlo := o.lo
    have hhi := o.hi
    have hhf := o.half
    have hpt := o.pt
    have hO : O ≤ 16384 := by
      rw [o.pw]
      exact Nat.pow_le_pow_right (n := 2) (j := 14) (by decide) (by have := o.be.2; omega)
    have hR : SRel B bx g go S O os (n + live os) w w ps os n nx := ⟨hs.ix, hs.rp, o.row, hs.lp, o.len, hs.oc, Nat.le_refl _, hs.wp, o.wf, fun f hf => hf, Below.refl _ _⟩
    refine (step48 B bx g go S O e ps os (n + live os) n nx w hR HE (by omega) hO (by omega) (by omega) hB h1 o.ne1 o.ne2).mono ?_
    rintro e w' ⟨rfl, ps', n', hl, hoc, hn', hwf, hrow, hbel, hend⟩
    refine ⟨rfl, hbel, ps', n', ?_⟩
    rcases hend with hix | ⟨os', nx', sr, h4, h5⟩
    · exact ⟨O, _, ⟨hix, hrow, hl, hoc, hwf⟩, by omega, .inl ⟨rfl, .inl (by omega)⟩⟩
    · have htt := sr.tt
      obtain ⟨f, hf⟩ := o.free
      exact ⟨nx', _, ⟨sr.ix, hrow, hl, hoc, hwf⟩, by omega, .inr ⟨by omega, go, O, eo, P + 1, os', rfl, sr.ro, sr.lo, sr.wo, ⟨f, sr.fr f hf⟩, o.pw, o.be, o.half, o.ne1, o.ne2, by omega, h5, by omega, by omega⟩⟩

/-- The index between two puts. -/
def State (B bx puts S : Nat) (old : Bool) (w : World) : Prop :=
  ∃ (e g : Nat) (ps : List Pl) (n nx : Nat) (ov : Value), S = 2 ^ e ∧ (3 ≤ e ∧ e ≤ 13) ∧ bx ≠ g ∧ St B bx g S ps n ov nx w ∧ n ≤ S / 4 * 3 ∧ n ≤ puts ∧
    ((old = false ∧ ov = .slice none 0 0) ∨ (old = true ∧ ∃ (go O eo P : Nat) (os : List Pl), ov = .slice (some ⟨go, 0, none⟩) O O ∧ Old B bx g S 0 puts n nx go O eo P os w))

/-- A step's end, the resizing one, is a state. -/
theorem resized {B bx g g2 S e puts : Nat} {ps : List Pl} {n : Nat} {w w' : World} (h : StepR B bx g2 g (2 * S) S ps n 0 w w') (hne : g2 ≠ bx) (hne2 : g2 ≠ g) (h1 : bx ≠ g) (HE : S = 2 ^ e) (he : 3 ≤ e ∧ e ≤ 13) (hn : n = S / 4 * 3 + 1) (hp : n ≤ puts) (hpu : puts ≤ 4096) (hoc : occ ps = n) (hl : ps.length = S) : ∃ old, State B bx puts (2 * S) old w' := by
  have e1 : 2 ^ e = 2 ^ 3 * 2 ^ (e - 3) := by rw [← Nat.pow_add, show 3 + (e - 3) = e from by omega]
  have e2 : 0 < 2 ^ (e - 3) := Nat.two_pow_pos _
  have he12 : e ≤ 12 := by
    rcases Nat.lt_or_ge e 13 with h' | h'
    · omega
    · have : e = 13 := by omega
      subst this
      simp at HE
      omega
  obtain ⟨ps', n', hl', hoc', hn', hwf, hrow, hbel, hend⟩ := h
  have hpw : 2 * S = 2 ^ (e + 1) := by rw [HE, Nat.pow_succ]; omega
  rcases hend with hix | ⟨os', nx', sr, h4, h5⟩
  · exact ⟨false, e + 1, g2, ps', n', S, _, hpw, by omega, hne.symm, ⟨hix, hrow, hl', hoc', hwf⟩, by omega, by omega, .inl ⟨rfl, rfl⟩⟩
  · have htt := sr.tt
    obtain ⟨f, hf⟩ := free_exists (ps := ps) (by omega)
    exact ⟨true, e + 1, g2, ps', n', nx', _, hpw, by omega, hne.symm, ⟨sr.ix, hrow, hl', hoc', hwf⟩, by omega, by omega, .inr ⟨rfl, g, S, e, 0, os', rfl, sr.ro, sr.lo, sr.wo, ⟨f, sr.fr f hf⟩, HE, he, rfl, h1, hne2, by omega, h5, by omega, by omega⟩⟩
end Go.Proofs.Qxb6601018a
