import Derived.Test.Qxb6603994aW3
import Derived.Deep.Slices
import Derived.ProofKit
import Derived.OpenShut
import Derived.ShutString
namespace Go.Proofs.Qxb6603994a
open Go.ChangeShapes Go.WideShapes Go.ChangeAt Go.RowKit Go.Deep
set_option linter.unusedVariables false

theorem Try.cells35 : Try.prog.cellsOf 35 = 7 := by kernel_rfl
theorem Try.cells24 : Try.prog.cellsOf 24 = 4 := by kernel_rfl
theorem Try.cells2 : Try.prog.cellsOf 2 = 1 := by kernel_rfl
theorem Try.cells5 : Try.prog.cellsOf 5 = 1 := by kernel_rfl

/-- An argument of type []Box: its boxes. -/
theorem open_boxes {H : Type} {enc : TypeId × Value → H} {w : World} {base : Nat} {spare : Nat → Bool} {held : Bool} {fuel : Nat} {a : Option Addr} {N cap : Nat} {x : DataW H × List MemPlace}
    (h : DataW.trod enc Try.prog w base spare held fuel 22 [.slice a N cap] = some x) : N ≤ maxLen ∧ ∃ bs : List Bx, N = bs.length ∧ BxAt w a bs ∧ ∀ b ∈ bs, InR b := by
  rcases open_slice Try.underlying22 h with ⟨hcs, _⟩ | ⟨ad, len, cp, m, n, D, Pl, hcs, hb, hl, hm, hmm, _, hx⟩
  · simp at hcs
    obtain ⟨rfl, rfl, rfl⟩ := hcs
    exact ⟨by unfold maxLen; omega, [], rfl, fun k c hk => by simp at hk, fun b hb => by cases hb⟩
  · simp at hcs
    obtain ⟨rfl, rfl, rfl⟩ := hcs
    have hlm : N ≤ m := by rw [hmm]; split <;> omega
    have each : ∀ i, i < N → ∃ c : Bx, (w.cell? (ad.add (i * 7)) = some (.int .u8 c.t0) ∧ w.cell? (ad.add (i * 7 + 1)) = some (.int .u8 c.t1) ∧ w.cell? (ad.add (i * 7 + 2)) = some (.int .u8 c.t2) ∧ w.cell? (ad.add (i * 7 + 3)) = some (.int .u8 c.t3) ∧
        w.cell? (ad.add (i * 7 + 4)) = some (.int .i64 c.st) ∧ w.cell? (ad.add (i * 7 + 5)) = some (.int .i64 c.bo) ∧ w.cell? (ad.add (i * 7 + 6)) = some (.int .i64 c.en)) ∧ InR c := by
      intro i hi
      obtain ⟨cs', h1, h2⟩ := hx i (by omega)
      rw [Try.cells35] at h1
      obtain ⟨_, hlen, hcell⟩ := World.cells?_some h1
      obtain ⟨xs, k, _, _, _, hxl, hf⟩ := DataW.trod_struct Try.underlying35 h2
      match xs, hxl, cs', hlen with
      | [z0, z1, z2, z3], _, [v0, v1, v2, v3, v4, v5, v6], _ =>
        have g0 := hf 0 _ rfl
        have g1 := hf 1 _ rfl
        have g2 := hf 2 _ rfl
        have g3 := hf 3 _ rfl
        simp [Try.cells2, Try.cells24] at g0 g1 g2 g3
        obtain ⟨xa, ka, _, _, _, hal, ha⟩ := DataW.trod_array Try.underlying24 g0
        match xa, hal with
        | [p0, p1, p2, p3], _ =>
          have a0 := ha 0 (by omega)
          have a1 := ha 1 (by omega)
          have a2 := ha 2 (by omega)
          have a3 := ha 3 (by omega)
          simp [Try.cells5] at a0 a1 a2 a3
          obtain ⟨m0, e0, _, b0⟩ := DataW.trod_int Try.underlying5 a0
          obtain ⟨m1, e1, _, b1⟩ := DataW.trod_int Try.underlying5 a1
          obtain ⟨m2, e2, _, b2⟩ := DataW.trod_int Try.underlying5 a2
          obtain ⟨m3, e3, _, b3⟩ := DataW.trod_int Try.underlying5 a3
          obtain ⟨m4, e4, _, _⟩ := DataW.trod_int Try.underlying2 g1
          obtain ⟨m5, e5, _, _⟩ := DataW.trod_int Try.underlying2 g2
          obtain ⟨m6, e6, _, _⟩ := DataW.trod_int Try.underlying2 g3
          simp at e0 e1 e2 e3 e4 e5 e6
          have c0 := hcell 0 (by omega)
          have c1 := hcell 1 (by omega)
          have c2 := hcell 2 (by omega)
          have c3 := hcell 3 (by omega)
          have c4 := hcell 4 (by omega)
          have c5 := hcell 5 (by omega)
          have c6 := hcell 6 (by omega)
          rw [add_add] at c0 c1 c2 c3 c4 c5 c6
          refine ⟨⟨m0, m1, m2, m3, m4, m5, m6⟩, ⟨?_, ?_, ?_, ?_, ?_, ?_, ?_⟩, ?_⟩
          · simpa [e0] using c0
          · simpa [e1] using c1
          · simpa [e2] using c2
          · simpa [e3] using c3
          · simpa [e4] using c4
          · simpa [e5] using c5
          · simpa [e6] using c6
          · have q0 := bounds_u8 b0
            have q1 := bounds_u8 b1
            have q2 := bounds_u8 b2
            have q3 := bounds_u8 b3
            unfold InR
            simp only
            omega
    haveI : Inhabited Bx := ⟨bx0⟩
    obtain ⟨f, hf⟩ := choose_lt each
    refine ⟨by omega, (List.range N).map f, by simp, fun k c hk => ?_, fun b hb => ?_⟩
    · have hkN : k < N := by
        rcases Nat.lt_or_ge k N with h' | h'
        · exact h'
        · rw [List.getElem?_eq_none (by simpa using h')] at hk; cases hk
      have hc : f k = c := by simpa [hkN] using hk
      subst hc
      obtain ⟨⟨q0, q1, q2, q3, q4, q5, q6⟩, _⟩ := hf k hkN
      have q00 := (hf 0 (by omega)).1.1
      obtain ⟨b, o, spot⟩ := ad
      have hspot : spot = none := by simpa [Addr.add] using World.cell?_spot q00
      subst hspot
      rw [Addr.add_mid] at q0 q1 q2 q3 q4 q5 q6
      exact ⟨b, o, rfl, q0, q1, q2, q3, q4, q5, q6⟩
    · simp only [List.mem_map, List.mem_range] at hb
      obtain ⟨i, hi, rfl⟩ := hb
      exact (hf i hi).2
end Go.Proofs.Qxb6603994a
