/- The edit script's plain laws. -/
import Derived.Test.Qxb6602907aScr
namespace Go.Proofs.Qxb6602907a

/-- A line of the script: kept, gone or new; its line numbers in range. -/
def LineOK (nF nT : Int) (x : Int × Int × Int) : Prop :=
  (x.1 = 32 ∧ 0 ≤ x.2.1 ∧ x.2.1 < nF ∧ 0 ≤ x.2.2 ∧ x.2.2 < nT) ∨ (x.1 = 45 ∧ 0 ≤ x.2.1 ∧ x.2.1 < nF ∧ 0 ≤ x.2.2 ∧ x.2.2 ≤ nT) ∨ (x.1 = 43 ∧ 0 ≤ x.2.1 ∧ x.2.1 ≤ nF ∧ 0 ≤ x.2.2 ∧ x.2.2 < nT)

theorem keepSeg_ok {nF nT : Int} : ∀ (n : Nat) (i j : Int), 0 ≤ i → 0 ≤ j → i + n ≤ nF → j + n ≤ nT → ∀ x ∈ keepSeg n i j, LineOK nF nT x
  | 0, _, _, _, _, _, _, x, hx => by simp [keepSeg] at hx
  | n + 1, i, j, hi, hj, h1, h2, x, hx => by
    simp only [keepSeg, List.mem_cons] at hx
    rcases hx with rfl | hx
    · exact .inl ⟨rfl, by show 0 ≤ i; omega, by show i < nF; omega, by show 0 ≤ j; omega, by show j < nT; omega⟩
    · exact keepSeg_ok n (i + 1) (j + 1) (by omega) (by omega) (by omega) (by omega) x hx
theorem delSeg_ok {nF nT : Int} : ∀ (n : Nat) (i j : Int), 0 ≤ i → 0 ≤ j → i + n ≤ nF → j ≤ nT → ∀ x ∈ delSeg n i j, LineOK nF nT x
  | 0, _, _, _, _, _, _, x, hx => by simp [delSeg] at hx
  | n + 1, i, j, hi, hj, h1, h2, x, hx => by
    simp only [delSeg, List.mem_cons] at hx
    rcases hx with rfl | hx
    · exact .inr (.inl ⟨rfl, by show 0 ≤ i; omega, by show i < nF; omega, by show 0 ≤ j; omega, by show j ≤ nT; omega⟩)
    · exact delSeg_ok n (i + 1) j (by omega) (by omega) (by omega) (by omega) x hx
theorem insSeg_ok {nF nT : Int} : ∀ (n : Nat) (i j : Int), 0 ≤ i → 0 ≤ j → i ≤ nF → j + n ≤ nT → ∀ x ∈ insSeg n i j, LineOK nF nT x
  | 0, _, _, _, _, _, _, x, hx => by simp [insSeg] at hx
  | n + 1, i, j, hi, hj, h1, h2, x, hx => by
    simp only [insSeg, List.mem_cons] at hx
    rcases hx with rfl | hx
    · exact .inr (.inr ⟨rfl, by show 0 ≤ i; omega, by show i ≤ nF; omega, by show 0 ≤ j; omega, by show j < nT; omega⟩)
    · exact insSeg_ok n i (j + 1) (by omega) (by omega) (by omega) (by omega) x hx

/-- Under COK, where the text stands at (i, j), the script's next part in plain terms. -/
theorem scr_cons {nF : Int} {c : Ch} {r : List Ch} {i j : Int} (h1 : i ≤ c.i0) (h2 : c.i0 - i = c.j0 - j) (h3 : c.i0 ≤ c.i1) (h4 : c.j0 ≤ c.j1) :
    scr nF (c :: r) i j = keepSeg (c.i0 - i).toNat i j ++ (delSeg (c.i1 - c.i0).toNat c.i0 c.j0 ++ (insSeg (c.j1 - c.j0).toNat c.i1 c.j0 ++ scr nF r c.i1 c.j1)) := by
  have e1 : i + ((c.i0 - i).toNat : Int) = c.i0 := by omega
  have e2 : j + ((c.i0 - i).toNat : Int) = c.j0 := by omega
  have e3 : c.i0 + ((c.i1 - c.i0).toNat : Int) = c.i1 := by omega
  have e4 : c.j0 + ((c.j1 - c.j0).toNat : Int) = c.j1 := by omega
  rw [scr, e1, e2, e3, e4]

theorem scr_ok {nF nT : Int} : ∀ (cs : List Ch) (fst : Bool) (i j : Int), COK nF nT fst i j cs → 0 ≤ i → i ≤ nF → 0 ≤ j → (fst = true → i ≤ 0) → ∀ x ∈ scr nF cs i j, LineOK nF nT x
  | [], _, i, j, hk, hi, hi', hj, _, x, hx => by
    have hk' : nF - i = nT - j := hk
    exact keepSeg_ok _ i j hi hj (by omega) (by omega) x hx
  | c :: r, fst, i, j, hk, hi, hi', hj, hf, x, hx => by
    obtain ⟨hb, hne, hp, hd, hk'⟩ := hk
    have hci : i ≤ c.i0 := by
      cases fst
      · have := hp rfl; omega
      · have := hf rfl; omega
    rw [scr_cons hci hd hb.2.1 hb.2.2.2.2.1] at hx
    simp only [List.mem_append] at hx
    rcases hx with hx | hx | hx | hx
    · exact keepSeg_ok _ i j hi hj (by omega) (by omega) x hx
    · exact delSeg_ok _ _ _ (by omega) (by omega) (by omega) (by omega) x hx
    · exact insSeg_ok _ _ _ (by omega) (by omega) (by omega) (by omega) x hx
    · exact scr_ok r false c.i1 c.j1 hk' (by omega) (by omega) (by omega) (fun h => by cases h) x hx

/-- 'zzUnchangedAgree' said yes. -/
def Agree (s1 : ByteArray) (z1 : List Int) (s2 : ByteArray) (z2 : List Int) (l : List (Int × Int × Int)) : Prop :=
  ∀ x ∈ l, x.1 = 32 → segI s1 z1 x.2.1 (x.2.1 + 1) = segI s2 z2 x.2.2 (x.2.2 + 1)
end Go.Proofs.Qxb6602907a
