import Derived.Test.Qxb6600979aW4
import Derived.Deep.Slices
import Derived.ProofKit
import Derived.OpenShut
import Derived.ShutString
namespace Go.Proofs.Qxb6600979a
open Go.ChangeShapes Go.WideShapes Go.ChangeAt Go.RowKit Go.Deep
set_option linter.unusedVariables false

theorem Try.cells37 : Try.prog.cellsOf 37 = 2 := by kernel_rfl
theorem Try.cells29 : Try.prog.cellsOf 29 = 1 := by kernel_rfl
theorem Try.cells5 : Try.prog.cellsOf 5 = 1 := by kernel_rfl

/-- An argument of type []byte. -/
theorem open_bytes {H : Type} {enc : TypeId × Value → H} {w : World} {base : Nat} {spare : Nat → Bool} {held : Bool} {fuel : Nat} {cs : List Value} {x : DataW H × List MemPlace}
    (h : DataW.trod enc Try.prog w base spare held fuel 29 cs = some x) : ∃ s : Sl, cs = [s.v] ∧ s.n ≤ maxLen ∧ (s.n ≤ 1048576 → SlAt w s) := by
  rcases open_ints Try.underlying29 Try.underlying5 Try.cells5 h with ⟨hcs, _⟩ | ⟨ad, l, c, zs, hcs, _, hl, hm, hz, _, hcell, hwz⟩
  · exact ⟨nilS, hcs, by unfold maxLen nilS; simp, fun _ => SlAt.nil _⟩
  · have hnz : l ≤ zs.length := by rw [hz]; split <;> omega
    refine ⟨⟨some ad, l, c, (zs.take l).map fun z => UInt8.ofNat z.toNat⟩, hcs, by show l ≤ maxLen; omega, fun hb => ⟨by simp; omega, hb, fun h => (by cases h), fun j b hj => ?_⟩⟩
    simp only [List.getElem?_map] at hj
    cases hq : (zs.take l)[j]? with
    | none => rw [hq] at hj; cases hj
    | some z =>
      rw [hq] at hj
      simp only [Option.map_some, Option.some.injEq] at hj
      have hjl : j < l := by
        rcases Nat.lt_or_ge j l with h' | h'
        · exact h'
        · rw [List.getElem?_eq_none (by simp; omega)] at hq; cases hq
      rw [List.getElem?_take, if_pos hjl] at hq
      have hb2 := bounds_u8 (hwz z (List.mem_of_getElem? hq))
      have hc := hcell j (by omega)
      rw [List.getD_eq_getElem?_getD, hq, Option.getD_some] at hc
      obtain ⟨b', o, spot⟩ := ad
      have h0 := hcell 0 (by omega)
      have hspot : spot = none := by simpa [Addr.add] using World.cell?_spot h0
      subst hspot
      rw [Addr.add_mid] at hc
      refine ⟨b', o, rfl, ?_⟩
      rw [hc, ← hj]
      have : z.toNat < 256 := by omega
      simp [Nat.mod_eq_of_lt this]
      omega

/-- An argument of type []Range: its ranges. -/
theorem open_ranges {H : Type} {enc : TypeId × Value → H} {w : World} {base : Nat} {spare : Nat → Bool} {held : Bool} {fuel : Nat} {a : Option Addr} {N cap : Nat} {x : DataW H × List MemPlace}
    (h : DataW.trod enc Try.prog w base spare held fuel 22 [.slice a N cap] = some x) : N ≤ maxLen ∧ (a = none → N = 0) ∧ ∃ xs : List (Sl × Sl), N = xs.length ∧ RowR w a xs ∧ Lens xs ∧ ∀ p ∈ xs, (p.1.n ≤ 1048576 → SlAt w p.1) ∧ (p.2.n ≤ 1048576 → SlAt w p.2) := by
  rcases open_slice Try.underlying22 h with ⟨hcs, _⟩ | ⟨ad, len, cp, m, n, D, Pl, hcs, hb, hl, hm, hmm, _, hx⟩
  · simp at hcs
    obtain ⟨rfl, rfl, rfl⟩ := hcs
    exact ⟨by unfold maxLen; omega, fun _ => rfl, [], rfl, fun k c hk => (by simp at hk), fun b hb => (by cases hb), fun b hb => (by cases hb)⟩
  · simp at hcs
    obtain ⟨rfl, rfl, rfl⟩ := hcs
    have hlm : N ≤ m := by rw [hmm]; split <;> omega
    have each : ∀ i, i < N → ∃ c : Sl × Sl, (w.cell? (ad.add (i * 2)) = some c.1.v ∧ w.cell? (ad.add (i * 2 + 1)) = some c.2.v) ∧ (c.1.n ≤ maxLen ∧ c.2.n ≤ maxLen) ∧ ((c.1.n ≤ 1048576 → SlAt w c.1) ∧ (c.2.n ≤ 1048576 → SlAt w c.2)) := by
      intro i hi
      obtain ⟨cs', h1, h2⟩ := hx i (by omega)
      rw [Try.cells37] at h1
      obtain ⟨_, hlen, hcell⟩ := World.cells?_some h1
      obtain ⟨xs, k, _, _, _, hxl, hf⟩ := DataW.trod_struct Try.underlying37 h2
      match xs, hxl, cs', hlen with
      | [z0, z1], _, [v0, v1], _ =>
        have g0 := hf 0 _ rfl
        have g1 := hf 1 _ rfl
        simp [Try.cells29] at g0 g1
        obtain ⟨s0, e0, b0, a0⟩ := open_bytes g0
        obtain ⟨s1, e1, b1, a1⟩ := open_bytes g1
        simp at e0 e1
        have c0 := hcell 0 (by omega)
        have c1 := hcell 1 (by omega)
        rw [add_add] at c0 c1
        refine ⟨(s0, s1), ⟨?_, ?_⟩, ⟨b0, b1⟩, a0, a1⟩
        · simpa [e0] using c0
        · simpa [e1] using c1
    haveI : Inhabited (Sl × Sl) := ⟨(nilS, nilS)⟩
    obtain ⟨f, hf⟩ := choose_lt each
    refine ⟨by omega, fun h => (by cases h), (List.range N).map f, by simp, fun k c hk => ?_, fun b hb => ?_, fun b hb => ?_⟩
    · have hkN : k < N := by
        rcases Nat.lt_or_ge k N with h' | h'
        · exact h'
        · rw [List.getElem?_eq_none (by simpa using h')] at hk; cases hk
      have hc : f k = c := by simpa [hkN] using hk
      subst hc
      obtain ⟨⟨q0, q1⟩, _⟩ := hf k hkN
      have q00 := (hf 0 (by omega)).1.1
      obtain ⟨b, o, spot⟩ := ad
      have hspot : spot = none := by simpa [Addr.add] using World.cell?_spot q00
      subst hspot
      rw [Addr.add_mid] at q0 q1
      exact ⟨b, o, rfl, q0, q1⟩
    · simp only [List.mem_map, List.mem_range] at hb
      obtain ⟨i, hi, rfl⟩ := hb
      exact (hf i hi).2.1
    · simp only [List.mem_map, List.mem_range] at hb
      obtain ⟨i, hi, rfl⟩ := hb
      exact (hf i hi).2.2
end Go.Proofs.Qxb6600979a
