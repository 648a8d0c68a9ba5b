import Derived.Test.Qxb6602907aW2
import Derived.Deep.Light
namespace Go.Proofs.Qxb6602907a
open Go.RowKit
set_option linter.unusedVariables false

def chCells (c : Ch) : List Value := [.int .i64 c.i0, .int .i64 c.i1, .int .i64 c.j0, .int .i64 c.j1]

/-- The change c lies at offset p of block b. -/
def ChIs (w : World) (b p : Nat) (c : Ch) : Prop :=
  w.cell? ⟨b, p, none⟩ = some (.int .i64 c.i0) ∧ w.cell? ⟨b, p + 1, none⟩ = some (.int .i64 c.i1) ∧ w.cell? ⟨b, p + 2, none⟩ = some (.int .i64 c.j0) ∧ w.cell? ⟨b, p + 3, none⟩ = some (.int .i64 c.j1)

/-- The slice at ao holds the changes cs. -/
def ChAt (w : World) (ao : Option Addr) (cs : List Ch) : Prop := ∀ k c, cs[k]? = some c → ∃ b o, ao = some ⟨b, o, none⟩ ∧ ChIs w b (o + k * 4) c

def ChWf (c : Ch) : Prop := (-9223372036854775808 ≤ c.i0 ∧ c.i0 ≤ 9223372036854775807) ∧ (-9223372036854775808 ≤ c.i1 ∧ c.i1 ≤ 9223372036854775807) ∧ (-9223372036854775808 ≤ c.j0 ∧ c.j0 ≤ 9223372036854775807) ∧ (-9223372036854775808 ≤ c.j1 ∧ c.j1 ≤ 9223372036854775807)

/-- A bool came back, and where it is true P holds. -/
def BoolTo (P : Prop) (e : Ending) : Prop := ∃ r : Bool, e = .returned (.bool r) ∧ (r = true → P)
theorem BoolTo.no {P : Prop} : BoolTo P (.returned (.bool false)) := ⟨false, rfl, fun h => by cases h⟩
theorem BoolTo.mk' {P : Prop} {r : Bool} (h : r = true → P) : BoolTo P (.returned (.bool r)) := ⟨r, rfl, h⟩

theorem cok_step {nF nT pi pj : Int} {k : Nat} {cs : List Ch} {c : Ch} (hk : cs[k]? = some c) (hall : Hid (COK nF nT (k == 0) pi pj (cs.drop k) → COK nF nT true 0 0 cs))
    (h1 : 0 ≤ c.i0 ∧ c.i0 ≤ c.i1 ∧ c.i1 ≤ nF ∧ 0 ≤ c.j0 ∧ c.j0 ≤ c.j1 ∧ c.j1 ≤ nT) (h2 : ¬ (c.i0 = c.i1 ∧ c.j0 = c.j1)) (h3 : 0 < k → pi < c.i0) (h4 : c.i0 - pi = c.j0 - pj) :
    Hid (COK nF nT (k + 1 == 0) c.i1 c.j1 (cs.drop (k + 1)) → COK nF nT true 0 0 cs) := by
  intro h
  refine hall.out ?_
  have hlt : k < cs.length := by
    rcases Nat.lt_or_ge k cs.length with h | h
    · exact h
    · rw [List.getElem?_eq_none h] at hk; cases hk
  have : cs.drop k = c :: cs.drop (k + 1) := by
    rw [List.drop_eq_getElem_cons hlt]
    rw [List.getElem?_eq_getElem hlt] at hk
    simp at hk
    rw [hk]
  rw [this]
  refine ⟨h1, h2, fun hf => h3 (by simp at hf; omega), h4, ?_⟩
  simpa using h

set_option maxHeartbeats 1600000 in
set_option maxRecDepth 8000 in
theorem changesok7 (nF nT : Int) (a : Option Addr) (N cap : Nat) (cs : List Ch) (w : World) (HN : Hid (N = cs.length)) (hn : N ≤ 1048576) (hF : 0 ≤ nF ∧ nF ≤ 1048576) (hT : 0 ≤ nT ∧ nT ≤ 1048576) (hc : ChAt w a cs) :
    Calls Try.prog 7 #[.int .i64 nF, .int .i64 nT, .slice a N cap] w fun e w' => BoolTo (COK nF nT true 0 0 cs) e ∧ Below w.heap.size w w' := by
  have HC : Hid (ChAt w a cs) := hc
  clear hc
  go_enter Try.func7, Try.ntmps7
  go_wp2
  go_loopw [7, 8, 9] (fun p q i wr => ∃ (k : Nat) (pi pj : Int), k ≤ N ∧ i = .int .i64 k ∧ p = .int .i64 pi ∧ q = .int .i64 pj ∧ 0 ≤ pi ∧ pi ≤ nF ∧ 0 ≤ pj ∧ pj ≤ nT ∧ Hid (COK nF nT (k == 0) pi pj (cs.drop k) → COK nF nT true 0 0 cs) ∧ Below w.heap.size w wr) (fun _ _ i _ => N - (intOf i).toNat)
  case atStart => exact ⟨0, 0, 0, by omega, rfl, rfl, rfl, by omega, by omega, by omega, by omega, fun h => h, Below.refl _ _⟩
  case round =>
    obtain ⟨k, pi, pj, hk, rfl, rfl, rfl, hp0, hp1, hq0, hq1, hall, hbel⟩ := hrel
    by_cases hlt : k < N
    · obtain ⟨c, hck⟩ : ∃ c, cs[k]? = some c := ⟨cs[k]'(by rw [← HN.out]; exact hlt), by simp⟩
      obtain ⟨b, o, rfl, q0, q1, q2, q3⟩ := HC.out k c hck
      have hbl : b < w.heap.size := World.block_lt_of_cell? w _ q0
      have g0 := (hbel.cell (p := ⟨b, o + k * 4, none⟩) hbl).trans q0
      have g1 := (hbel.cell (p := ⟨b, o + k * 4 + 1, none⟩) hbl).trans q1
      have g2 := (hbel.cell (p := ⟨b, o + k * 4 + 2, none⟩) hbl).trans q2
      have g3 := (hbel.cell (p := ⟨b, o + k * 4 + 3, none⟩) hbl).trans q3
      have HB : Hid (Below w.heap.size w wr) := hbel
      have hwz := hbel.size
      have HK : Hid (cs[k]? = some c) := hck
      clear hbel hck q0 q1 q2 q3
      obtain ⟨i0, i1, j0, j1⟩ := c
      simp only at g0 g1 g2 g3
      have i1k : (k : Int) < N := by omega
      go_wp2
      all_goals first
        | (go_ret; exact ⟨BoolTo.no, HB.out.alloc hwz _⟩)
        | (have HZ : Hid ((0 ≤ i0 ∧ i0 ≤ i1 ∧ i1 ≤ nF ∧ 0 ≤ j0 ∧ j0 ≤ j1 ∧ j1 ≤ nT) ∧ ¬ (i0 = i1 ∧ j0 = j1) ∧ (0 < k → pi < i0) ∧ i0 - pi = j0 - pj) := (by
             unfold Hid; clear g0 g1 g2 g3; simp only [bne_eq_false_iff_eq, beq_eq_false_iff_ne, ne_eq] at *; omega)
           have HX := cok_step (c := ⟨i0, i1, j0, j1⟩) HK.out hall HZ.out.1 HZ.out.2.1 HZ.out.2.2.1 HZ.out.2.2.2
           have b1 : 0 ≤ i1 ∧ i1 ≤ nF ∧ 0 ≤ j1 ∧ j1 ≤ nT := (by have := HZ.out; omega)
           go_quiet (fail); go_wp2; go_roundw
           case rel => exact ⟨k + 1, i1, j1, by omega, by go_num, rfl, rfl, b1.1, b1.2.1, b1.2.2.1, b1.2.2.2, HX, below_drewN (HB.out.alloc hwz _) _⟩
           case measure => go_light; simp only [intOf]; omega)
    · have hkN : k = N := by omega
      go_wp2
      go_ret
      refine ⟨BoolTo.mk' fun h => hall.out ?_, hbel⟩
      rw [List.drop_eq_nil_of_le (by rw [← HN.out]; omega)]
      simpa [COK] using h
end Go.Proofs.Qxb6602907a
