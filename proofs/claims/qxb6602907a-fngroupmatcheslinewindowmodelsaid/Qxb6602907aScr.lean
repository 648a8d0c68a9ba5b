/- The edit script, line by line: plain lists. -/
import Derived.Test.Qxb6602907aDefs
namespace Go.Proofs.Qxb6602907a

def keepSeg : Nat → Int → Int → List (Int × Int × Int)
  | 0, _, _ => []
  | n + 1, i, j => (32, i, j) :: keepSeg n (i + 1) (j + 1)
def delSeg : Nat → Int → Int → List (Int × Int × Int)
  | 0, _, _ => []
  | n + 1, i, j => (45, i, j) :: delSeg n (i + 1) j
def insSeg : Nat → Int → Int → List (Int × Int × Int)
  | 0, _, _ => []
  | n + 1, i, j => (43, i, j) :: insSeg n i (j + 1)

/-- What is left of the script: at the head of a round; and within a change's round, at its second and its third loop. -/
def scr (nF : Int) : List Ch → Int → Int → List (Int × Int × Int)
  | [], i, j => keepSeg (nF - i).toNat i j
  | c :: r, i, j => keepSeg (c.i0 - i).toNat i j ++ (delSeg (c.i1 - (i + (c.i0 - i).toNat)).toNat (i + (c.i0 - i).toNat) (j + (c.i0 - i).toNat) ++
      (insSeg (c.j1 - (j + (c.i0 - i).toNat)).toNat (i + (c.i0 - i).toNat + (c.i1 - (i + (c.i0 - i).toNat)).toNat) (j + (c.i0 - i).toNat) ++
        scr nF r (i + (c.i0 - i).toNat + (c.i1 - (i + (c.i0 - i).toNat)).toNat) (j + (c.i0 - i).toNat + (c.j1 - (j + (c.i0 - i).toNat)).toNat)))
def scrI (nF : Int) (c : Ch) (r : List Ch) (i j : Int) : List (Int × Int × Int) := insSeg (c.j1 - j).toNat i j ++ scr nF r i (j + (c.j1 - j).toNat)
def scrD (nF : Int) (c : Ch) (r : List Ch) (i j : Int) : List (Int × Int × Int) := delSeg (c.i1 - i).toNat i j ++ scrI nF c r (i + (c.i1 - i).toNat) j

theorem scr_keep {nF : Int} {c : Ch} {r : List Ch} {i j : Int} (h : i < c.i0) : scr nF (c :: r) i j = (32, i, j) :: scr nF (c :: r) (i + 1) (j + 1) := by
  obtain ⟨n, hn⟩ : ∃ n, (c.i0 - i).toNat = n + 1 := ⟨(c.i0 - i).toNat - 1, by omega⟩
  have hn' : (c.i0 - (i + 1)).toNat = n := by omega
  have e1 : i + ((n + 1 : Nat) : Int) = i + 1 + (n : Int) := by omega
  have e2 : j + ((n + 1 : Nat) : Int) = j + 1 + (n : Int) := by omega
  simp only [scr, hn, hn', keepSeg, e1, e2, List.cons_append]
theorem scr_keep_end {nF : Int} {c : Ch} {r : List Ch} {i j : Int} (h : ¬ i < c.i0) : scr nF (c :: r) i j = scrD nF c r i j := by
  have hn : (c.i0 - i).toNat = 0 := by omega
  simp [scr, scrD, scrI, hn, keepSeg]
theorem scrD_del {nF : Int} {c : Ch} {r : List Ch} {i j : Int} (h : i < c.i1) : scrD nF c r i j = (45, i, j) :: scrD nF c r (i + 1) j := by
  obtain ⟨n, hn⟩ : ∃ n, (c.i1 - i).toNat = n + 1 := ⟨(c.i1 - i).toNat - 1, by omega⟩
  have hn' : (c.i1 - (i + 1)).toNat = n := by omega
  have e1 : i + ((n + 1 : Nat) : Int) = i + 1 + (n : Int) := by omega
  simp only [scrD, hn, hn', delSeg, e1, List.cons_append]
theorem scrD_end {nF : Int} {c : Ch} {r : List Ch} {i j : Int} (h : ¬ i < c.i1) : scrD nF c r i j = scrI nF c r i j := by
  have hn : (c.i1 - i).toNat = 0 := by omega
  simp [scrD, hn, delSeg]
theorem scrI_ins {nF : Int} {c : Ch} {r : List Ch} {i j : Int} (h : j < c.j1) : scrI nF c r i j = (43, i, j) :: scrI nF c r i (j + 1) := by
  obtain ⟨n, hn⟩ : ∃ n, (c.j1 - j).toNat = n + 1 := ⟨(c.j1 - j).toNat - 1, by omega⟩
  have hn' : (c.j1 - (j + 1)).toNat = n := by omega
  have e1 : j + ((n + 1 : Nat) : Int) = j + 1 + (n : Int) := by omega
  simp only [scrI, hn, hn', insSeg, e1, List.cons_append]
theorem scrI_end {nF : Int} {c : Ch} {r : List Ch} {i j : Int} (h : ¬ j < c.j1) : scrI nF c r i j = scr nF r i j := by
  have hn : (c.j1 - j).toNat = 0 := by omega
  simp [scrI, hn, insSeg]
theorem scr_tail {nF i j : Int} (h : i < nF) : scr nF [] i j = (32, i, j) :: scr nF [] (i + 1) (j + 1) := by
  obtain ⟨n, hn⟩ : ∃ n, (nF - i).toNat = n + 1 := ⟨(nF - i).toNat - 1, by omega⟩
  have hn' : (nF - (i + 1)).toNat = n := by omega
  simp only [scr, hn, hn', keepSeg]
theorem scr_tail_end {nF i j : Int} (h : ¬ i < nF) : scr nF [] i j = [] := by
  have hn : (nF - i).toNat = 0 := by omega
  simp only [scr, hn, keepSeg]
end Go.Proofs.Qxb6602907a
