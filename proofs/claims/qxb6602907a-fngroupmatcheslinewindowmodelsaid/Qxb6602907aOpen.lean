import Derived.Test.Qxb6602907aW5
import Derived.Deep.Slices
import Derived.ProofKit
import Derived.OpenShut
import Derived.ShutString
namespace Go.Proofs.Qxb6602907a
open Go.ChangeShapes Go.WideShapes Go.ChangeAt Go.RowKit Go.Deep
set_option linter.unusedVariables false

theorem Try.cells40 : Try.prog.cellsOf 40 = 4 := by kernel_rfl
theorem Try.cells3 : Try.prog.cellsOf 3 = 1 := by kernel_rfl
theorem Try.cells21 : Try.prog.cellsOf 21 = 1 := by kernel_rfl

theorem add_lit' (b o j : Nat) : (⟨b, o, none⟩ : Addr).add j = ⟨b, o + j, none⟩ := by unfold Addr.add; split <;> simp_all

/-- An argument of type []Change: its changes. -/
theorem open_changes {H : Type} {enc : TypeId × Value → H} {w : World} {base : Nat} {spare : Nat → Bool} {held : Bool} {fuel : Nat} {a : Option Addr} {N cap : Nat} {x : DataW H × List MemPlace}
    (h : DataW.trod enc Try.prog w base spare held fuel 23 [.slice a N cap] = some x) : N ≤ maxLen ∧ ∃ cs : List Ch, N = cs.length ∧ ChAt w a cs := by
  rcases open_slice Try.underlying23 h with ⟨hcs, _⟩ | ⟨ad, len, cp, m, n, D, Pl, hcs, hb, hl, hm, hmm, _, hx⟩
  · simp at hcs
    obtain ⟨rfl, rfl, rfl⟩ := hcs
    exact ⟨by unfold maxLen; omega, [], rfl, fun k c hk => by simp at hk⟩
  · simp at hcs
    obtain ⟨rfl, rfl, rfl⟩ := hcs
    have hlm : N ≤ m := by rw [hmm]; split <;> omega
    have each : ∀ i, i < N → ∃ c : Ch, w.cell? (ad.add (i * 4)) = some (.int .i64 c.i0) ∧ w.cell? (ad.add (i * 4 + 1)) = some (.int .i64 c.i1) ∧ w.cell? (ad.add (i * 4 + 2)) = some (.int .i64 c.j0) ∧ w.cell? (ad.add (i * 4 + 3)) = some (.int .i64 c.j1) := by
      intro i hi
      obtain ⟨cs', h1, h2⟩ := hx i (by omega)
      rw [Try.cells40] at h1
      obtain ⟨_, hlen, hcell⟩ := World.cells?_some h1
      obtain ⟨xs, k, _, _, _, hxl, hf⟩ := DataW.trod_struct Try.underlying40 h2
      match xs, hxl, cs', hlen with
      | [y0, y1, y2, y3], _, [v0, v1, v2, v3], _ =>
        have g0 := hf 0 _ rfl
        have g1 := hf 1 _ rfl
        have g2 := hf 2 _ rfl
        have g3 := hf 3 _ rfl
        simp [Try.cells3] at g0 g1 g2 g3
        obtain ⟨n0, e0, _, _⟩ := DataW.trod_int Try.underlying3 g0
        obtain ⟨n1, e1, _, _⟩ := DataW.trod_int Try.underlying3 g1
        obtain ⟨n2, e2, _, _⟩ := DataW.trod_int Try.underlying3 g2
        obtain ⟨n3, e3, _, _⟩ := DataW.trod_int Try.underlying3 g3
        simp at e0 e1 e2 e3
        have c0 := hcell 0 (by omega)
        have c1 := hcell 1 (by omega)
        have c2 := hcell 2 (by omega)
        have c3 := hcell 3 (by omega)
        rw [add_add] at c0 c1 c2 c3
        refine ⟨⟨n0, n1, n2, n3⟩, ?_, ?_, ?_, ?_⟩
        · simpa [e0] using c0
        · simpa [e1] using c1
        · simpa [e2] using c2
        · simpa [e3] using c3
    haveI : Inhabited Ch := ⟨⟨0, 0, 0, 0⟩⟩
    obtain ⟨f, hf⟩ := choose_lt each
    refine ⟨by omega, (List.range N).map f, by simp, fun k c hk => ?_⟩
    have hkN : k < N := by
      rcases Nat.lt_or_ge k N with h' | h'
      · exact h'
      · rw [List.getElem?_eq_none (by simpa using h')] at hk; cases hk
    have hc : f k = c := by simpa [hkN] using hk
    subst hc
    obtain ⟨q0, q1, q2, q3⟩ := hf k hkN
    have q00 := (hf 0 (by omega)).1
    obtain ⟨b, o, spot⟩ := ad
    have hspot : spot = none := by simpa [Addr.add] using World.cell?_spot q00
    subst hspot
    rw [add_lit'] at q0 q1 q2 q3
    exact ⟨b, o, rfl, q0, q1, q2, q3⟩

/-- An argument of type []int32: its numbers. -/
theorem open_starts {H : Type} {enc : TypeId × Value → H} {w : World} {base : Nat} {spare : Nat → Bool} {held : Bool} {fuel : Nat} {a : Option Addr} {n cap : Nat} {x : DataW H × List MemPlace}
    (h : DataW.trod enc Try.prog w base spare held fuel 22 [.slice a n cap] = some x) : n ≤ maxLen ∧ ∃ z : List Int, z.length = n ∧ (0 < n → ∃ b o, a = some ⟨b, o, none⟩ ∧ I32At w b o z) ∧ ∀ i, -2147483648 ≤ z.getD i 0 ∧ z.getD i 0 ≤ 2147483647 := by
  rcases open_ints Try.underlying22 Try.underlying21 Try.cells21 h with ⟨hcs, _⟩ | ⟨ad, l, c, zs, hcs, _, hl, hm, hz, _, hcell, hwz⟩
  · simp at hcs
    obtain ⟨rfl, rfl, rfl⟩ := hcs
    exact ⟨by unfold maxLen; omega, [], rfl, fun h => by omega, fun i => by simp⟩
  · simp at hcs
    obtain ⟨rfl, rfl, rfl⟩ := hcs
    have hnz : n ≤ zs.length := by rw [hz]; split <;> omega
    refine ⟨by omega, zs.take n, by simp; omega, fun hn => ?_, fun i => ?_⟩
    · obtain ⟨b, o, spot⟩ := ad
      have hspot : spot = none := by simpa [Addr.add] using World.cell?_spot (hcell 0 (by omega))
      subst hspot
      refine ⟨b, o, rfl, fun i hi => ?_⟩
      simp only [List.length_take] at hi
      have := hcell i (by omega)
      rw [add_lit'] at this
      rw [this, List.getD_eq_getElem?_getD, List.getD_eq_getElem?_getD, List.getElem?_take, if_pos (by omega)]
    · rw [List.getD_eq_getElem?_getD, List.getElem?_take]
      split
      · cases hq : zs[i]? with
        | none => simp
        | some v =>
          have hb := hwz v (List.mem_of_getElem? hq)
          have := bounds_i32 hb
          simp
          omega
      · simp
end Go.Proofs.Qxb6602907a
