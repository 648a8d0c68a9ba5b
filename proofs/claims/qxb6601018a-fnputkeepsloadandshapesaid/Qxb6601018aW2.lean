import Derived.Test.Qxb6601018aW1
namespace Go.Proofs.Qxb6601018a
open Go.RowKit
set_option linter.unusedVariables false

def occ (ps : List Pl) : Nat := ps.countP fun p => p.2 != 0
def live (ps : List Pl) : Nat := ps.countP fun p => p.2 != 0 && p.2 != 18446744073709551615

theorem at_lt {α : Type} {l : List α} {i : Nat} {x : α} (h : l[i]? = some x) : i < l.length := by
  rcases Nat.lt_or_ge i l.length with h' | h'
  · exact h'
  · rw [List.getElem?_eq_none h'] at h; cases h
theorem count_set {l : List Pl} {i : Nat} {x : Pl} (h : l[i]? = some x) (P : Pl → Bool) (y : Pl) : (l.set i y).countP P + (if P x then 1 else 0) = l.countP P + (if P y then 1 else 0) := by
  induction l generalizing i with
  | nil => simp at h
  | cons a l ih =>
    cases i with
    | zero =>
      simp at h
      subst h
      simp only [List.set_cons_zero, List.countP_cons]
      omega
    | succ i =>
      have := ih (i := i) (by simpa using h)
      simp only [List.set_cons_succ, List.countP_cons]
      omega
theorem occ_new {ps : List Pl} {i : Nat} {q p : Pl} (h : ps[i]? = some q) (hq : q.2 = 0) (hp : p.2 ≠ 0) : occ (ps.set i p) = occ ps + 1 := by
  have := count_set h (fun p => p.2 != 0) p
  have e1 : (q.2 != 0) = false := by simp [hq]
  have e2 : (p.2 != 0) = true := by simpa using hp
  simp only [e1, e2, if_true, Bool.false_eq_true, if_false] at this
  unfold occ
  omega
theorem occ_same {ps : List Pl} {i : Nat} {q p : Pl} (h : ps[i]? = some q) (hq : q.2 ≠ 0) (hp : p.2 ≠ 0) : occ (ps.set i p) = occ ps := by
  have := count_set h (fun p => p.2 != 0) p
  have e1 : (q.2 != 0) = true := by simpa using hq
  have e2 : (p.2 != 0) = true := by simpa using hp
  simp only [e1, e2, if_true] at this
  unfold occ
  omega
theorem live_gone {os : List Pl} {i : Nat} {q : Pl} (h : os[i]? = some q) (hq : q.2 ≠ 0 ∧ q.2 ≠ 18446744073709551615) : live (os.set i (q.1, 18446744073709551615)) + 1 = live os := by
  have := count_set h (fun p => p.2 != 0 && p.2 != 18446744073709551615) (q.1, 18446744073709551615)
  have e1 : (q.2 != 0 && q.2 != 18446744073709551615) = true := by simp [hq.1, hq.2]
  simp only [e1, if_true, bne_self_eq_false, Bool.and_false, Bool.false_eq_true, if_false, Nat.add_zero] at this
  unfold live
  exact this
theorem live_le_occ (ps : List Pl) : live ps ≤ occ ps := by
  unfold live occ
  exact List.countP_mono_left fun x _ h => by simp at h ⊢; exact h.1
theorem free_exists : ∀ {ps : List Pl}, occ ps < ps.length → ∃ (f : Nat) (p : Pl), ps[f]? = some p ∧ p.2 = 0
  | [], h => by simp at h
  | a :: l, h => by
    by_cases ha : a.2 = 0
    · exact ⟨0, a, rfl, ha⟩
    · have h' : occ l < l.length := by
        have e : (a.2 != 0) = true := by simpa using ha
        unfold occ at h ⊢
        rw [List.countP_cons] at h
        simp only [e, if_true, List.length_cons] at h
        omega
      obtain ⟨f, p, h1, h2⟩ := free_exists h'
      exact ⟨f + 1, p, by simpa using h1, h2⟩
theorem free_keep {ps : List Pl} {i f : Nat} {q y : Pl} (h : ps[i]? = some q) (hq : q.2 ≠ 0) (hf : ∃ p, ps[f]? = some p ∧ p.2 = 0) : ∃ p, (ps.set i y)[f]? = some p ∧ p.2 = 0 := by
  obtain ⟨p, hp, h0⟩ := hf
  refine ⟨p, ?_, h0⟩
  rw [List.getElem?_set, if_neg]
  · exact hp
  · intro e
    subst e
    rw [h] at hp
    cases hp
    exact hq h0
theorem Wf.set {ps : List Pl} (h : Wf ps) (i : Nat) {p : Pl} (hp : (0 ≤ p.1 ∧ p.1 < 18446744073709551616) ∧ 0 ≤ p.2 ∧ p.2 < 18446744073709551616) : Wf (ps.set i p) := ⟨fun q hq => by
  rcases List.mem_or_eq_of_mem_set hq with h' | h'
  · exact h.all q h'
  · rw [h']; exact hp⟩

/-- The index's own four cells. -/
structure Ix (w : World) (bx : Nat) (pv : Value) (n : Int) (ov : Value) (nx : Int) : Prop where
  c0 : w.cell? ⟨bx, 0, none⟩ = some pv
  c1 : w.cell? ⟨bx, 1, none⟩ = some (.int .i64 n)
  c2 : w.cell? ⟨bx, 2, none⟩ = some ov
  c3 : w.cell? ⟨bx, 3, none⟩ = some (.int .i64 nx)
  f0 : w.frozen? ⟨bx, 0, none⟩ = false
  f1 : w.frozen? ⟨bx, 1, none⟩ = false
  f2 : w.frozen? ⟨bx, 2, none⟩ = false
  f3 : w.frozen? ⟨bx, 3, none⟩ = false
theorem Ix.lt {w : World} {bx : Nat} {pv : Value} {n : Int} {ov : Value} {nx : Int} (h : Ix w bx pv n ov nx) : bx < w.heap.size := World.block_lt_of_cell? w _ h.c0
theorem Ix.blk {w W : World} {bx : Nat} {pv : Value} {n : Int} {ov : Value} {nx : Int} (h : Ix w bx pv n ov nx) (e : W.heap[bx]? = w.heap[bx]?) : Ix W bx pv n ov nx :=
  ⟨(World.cell?_of_block (a := ⟨bx, 0, none⟩) e).trans h.c0, (World.cell?_of_block (a := ⟨bx, 1, none⟩) e).trans h.c1, (World.cell?_of_block (a := ⟨bx, 2, none⟩) e).trans h.c2, (World.cell?_of_block (a := ⟨bx, 3, none⟩) e).trans h.c3,
    (World.frozen?_of_block (a := ⟨bx, 0, none⟩) e).trans h.f0, (World.frozen?_of_block (a := ⟨bx, 1, none⟩) e).trans h.f1, (World.frozen?_of_block (a := ⟨bx, 2, none⟩) e).trans h.f2, (World.frozen?_of_block (a := ⟨bx, 3, none⟩) e).trans h.f3⟩
theorem Ix.below {w W : World} {bx C : Nat} {pv : Value} {n : Int} {ov : Value} {nx : Int} (h : Ix w bx pv n ov nx) (hb : Below C w W) (hc : bx < C) : Ix W bx pv n ov nx := h.blk (hb.block bx hc)
theorem Ix.other {w : World} {bx b j : Nat} {pv : Value} {n : Int} {ov : Value} {nx : Int} (h : Ix w bx pv n ov nx) (v : Value) (hne : b ≠ bx) : Ix (w.setCell ⟨b, j, none⟩ v) bx pv n ov nx := h.blk (Below.heap_setCell w ⟨b, j, none⟩ v bx (Ne.symm hne))
theorem Ix.n_ {w : World} {bx : Nat} {pv : Value} {n : Int} {ov : Value} {nx : Int} (h : Ix w bx pv n ov nx) (n' : Int) : Ix (w.setCell ⟨bx, 1, none⟩ (.int .i64 n')) bx pv n' ov nx := by
  obtain ⟨c0, c1, c2, c3, f0, f1, f2, f3⟩ := h
  constructor <;> simp [go_sem, *]
theorem Ix.nx_ {w : World} {bx : Nat} {pv : Value} {n : Int} {ov : Value} {nx : Int} (h : Ix w bx pv n ov nx) (nx' : Int) : Ix (w.setCell ⟨bx, 3, none⟩ (.int .i64 nx')) bx pv n ov nx' := by
  obtain ⟨c0, c1, c2, c3, f0, f1, f2, f3⟩ := h
  constructor <;> simp [go_sem, *]
theorem Ix.ov_ {w : World} {bx : Nat} {pv : Value} {n : Int} {ov : Value} {nx : Int} (h : Ix w bx pv n ov nx) (ov' : Value) : Ix (w.setCell ⟨bx, 2, none⟩ ov') bx pv n ov' nx := by
  obtain ⟨c0, c1, c2, c3, f0, f1, f2, f3⟩ := h
  constructor <;> simp [go_sem, *]
theorem Ix.pv_ {w : World} {bx : Nat} {pv : Value} {n : Int} {ov : Value} {nx : Int} (h : Ix w bx pv n ov nx) (pv' : Value) : Ix (w.setCell ⟨bx, 0, none⟩ pv') bx pv' n ov nx := by
  obtain ⟨c0, c1, c2, c3, f0, f1, f2, f3⟩ := h
  constructor <;> simp [go_sem, *]

theorem PRow.put2 {w : World} {B g : Nat} {ps : List Pl} (h : PRow w B g ps) {i : Nat} {hh l l' : Int} (hp : ps[i]? = some (hh, l)) : PRow (w.setCell ⟨g, i * 2 + 1, none⟩ (.int .u64 l')) B g (ps.set i (hh, l')) := by
  unfold PRow
  rw [List.length_set, flatP_set2 ps i hh l l' hp]
  exact (World.ownsRow.stored h _ _).1
theorem PRow.putp {w : World} {B g : Nat} {ps : List Pl} (h : PRow w B g ps) (i : Nat) (p : Pl) : PRow ((w.setCell ⟨g, i * 2, none⟩ (.int .u64 p.1)).setCell ⟨g, i * 2 + 1, none⟩ (.int .u64 p.2)) B g (ps.set i p) := by
  unfold PRow
  rw [List.length_set, flatP_set ps i p]
  exact (World.ownsRow.stored (World.ownsRow.stored h _ _).1 _ _).1


end Go.Proofs.Qxb6601018a
