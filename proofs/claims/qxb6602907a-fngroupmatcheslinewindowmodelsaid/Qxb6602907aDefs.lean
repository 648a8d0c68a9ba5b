/- Plain definitions: no program in sight. -/
namespace Go.Proofs.Qxb6602907a

structure Ch where
  i0 : Int
  i1 : Int
  j0 : Int
  j1 : Int

structure Hk where
  fr : Int
  tw : Int
  fc : Int
  tc : Int
  runs : List (Int × ByteArray)

/-- 'zzTextOK' said yes. -/
def TextOK (s : ByteArray) (z : List Int) : Prop :=
  0 < z.length ∧ z.getD 0 0 = 0 ∧ (∀ j, 1 ≤ j → j < z.length → z.getD (j - 1) 0 ≤ z.getD j 0) ∧ z.getD (z.length - 1) 0 = s.size

/-- 'zzChangesOK' said yes: from the change list's suffix on. -/
def COK (nF nT : Int) : Bool → Int → Int → List Ch → Prop
  | _, pi, pj, [] => nF - pi = nT - pj
  | first, pi, pj, c :: r =>
    (0 ≤ c.i0 ∧ c.i0 ≤ c.i1 ∧ c.i1 ≤ nF ∧ 0 ≤ c.j0 ∧ c.j0 ≤ c.j1 ∧ c.j1 ≤ nT) ∧ ¬ (c.i0 = c.i1 ∧ c.j0 = c.j1) ∧ (first = false → pi < c.i0) ∧ c.i0 - pi = c.j0 - pj ∧ COK nF nT false c.i1 c.j1 r

/-- The text of the lines from start number i to start number j. -/
def seg (s : ByteArray) (z : List Int) (i j : Nat) : ByteArray := s.extract (z.getD i 0).toNat (z.getD j 0).toNat

def addRun (rs : List (Int × ByteArray)) (op : Int) (s : ByteArray) : List (Int × ByteArray) := if s.size = 0 then rs else rs ++ [(op, s)]

/-- How many of the list's changes join the group that 'p' stands in. -/
def gcnt : Ch → List Ch → Nat
  | _, [] => 0
  | p, c :: r => if c.i0 - p.i1 ≤ 6 then gcnt c r + 1 else 0

def segI (s : ByteArray) (z : List Int) (i j : Int) : ByteArray := seg s z i.toNat j.toNat

/-- One change's runs. -/
def stepRuns (s1 : ByteArray) (z1 : List Int) (s2 : ByteArray) (z2 : List Int) (a : List (Int × ByteArray) × Int) (c : Ch) : List (Int × ByteArray) × Int :=
  (addRun (addRun (addRun a.1 32 (segI s1 z1 a.2 c.i0)) 45 (segI s1 z1 c.i0 c.i1)) 43 (segI s2 z2 c.j0 c.j1), c.i1)

def hI0 (f : Ch) : Int := max 0 (f.i0 - 3)
def hJ0 (f : Ch) : Int := f.j0 - (f.i0 - hI0 f)
def hI1 (nF : Int) (l : Ch) : Int := min nF (l.i1 + 3)
def hJ1 (nF : Int) (l : Ch) : Int := l.j1 + (hI1 nF l - l.i1)
def bump (c x : Int) : Int := if 0 < c then x + 1 else x

def hkRuns (s1 : ByteArray) (z1 : List Int) (s2 : ByteArray) (z2 : List Int) (nF : Int) (f l : Ch) (g : List Ch) : List (Int × ByteArray) :=
  addRun (g.foldl (stepRuns s1 z1 s2 z2) ([], hI0 f)).1 32 (segI s1 z1 (g.foldl (stepRuns s1 z1 s2 z2) ([], hI0 f)).2 (hI1 nF l))

/-- The hunk of the group g, whose first and last changes are f and l. -/
def hkOf (s1 : ByteArray) (z1 : List Int) (s2 : ByteArray) (z2 : List Int) (nF : Int) (f l : Ch) (g : List Ch) : Hk :=
  { fr := bump (hI1 nF l - hI0 f) (hI0 f), tw := bump (hJ1 nF l - hJ0 f) (hJ0 f), fc := hI1 nF l - hI0 f, tc := hJ1 nF l - hJ0 f, runs := hkRuns s1 z1 s2 z2 nF f l g }

def lastOf (c : Ch) (r : List Ch) : Ch := r.getLast?.getD c

def groupM (s1 : ByteArray) (z1 : List Int) (s2 : ByteArray) (z2 : List Int) (nF : Int) : Nat → List Ch → List Hk
  | 0, _ => []
  | _ + 1, [] => []
  | f + 1, c :: r => hkOf s1 z1 s2 z2 nF c (lastOf c (r.take (gcnt c r))) (c :: r.take (gcnt c r)) :: groupM s1 z1 s2 z2 nF f (r.drop (gcnt c r))

theorem gcnt_le : ∀ (p : Ch) (r : List Ch), gcnt p r ≤ r.length
  | _, [] => Nat.le_refl _
  | p, c :: r => by
    unfold gcnt
    split
    · have := gcnt_le c r; simp only [List.length_cons]; omega
    · omega

end Go.Proofs.Qxb6602907a
