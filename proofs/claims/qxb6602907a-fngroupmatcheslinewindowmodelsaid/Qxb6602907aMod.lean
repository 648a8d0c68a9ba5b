/- The line-window model, in plain terms. -/
import Derived.Test.Qxb6602907aScr2
namespace Go.Proofs.Qxb6602907a
set_option linter.unusedVariables false

/-- From the left: is the line changed, or fewer than three unchanged lines behind a change? -/
def fwd : Nat → List (Int × Int × Int) → List Bool
  | _, [] => []
  | s, x :: r => if x.1 = 32 then (if s < 3 then true :: fwd (s + 1) r else false :: fwd s r) else true :: fwd 0 r

/-- From the right: fewer than three unchanged lines ahead of a change? And the count. -/
def bwd : List (Int × Int × Int) → List Bool × Nat
  | [] => ([], 3)
  | x :: r => if x.1 = 32 then (if (bwd r).2 < 3 then (true :: (bwd r).1, (bwd r).2 + 1) else (false :: (bwd r).1, (bwd r).2)) else (false :: (bwd r).1, 0)

theorem fwd_length : ∀ (l : List (Int × Int × Int)) (s : Nat), (fwd s l).length = l.length
  | [], _ => rfl
  | x :: r, s => by
    unfold fwd
    split
    · split <;> simp [fwd_length r]
    · simp [fwd_length r]
theorem bwd_length : ∀ (l : List (Int × Int × Int)), (bwd l).1.length = l.length
  | [] => rfl
  | x :: r => by
    unfold bwd
    split
    · split <;> simp [bwd_length r]
    · simp [bwd_length r]

def orL (a b : List Bool) : List Bool := List.zipWith (· || ·) a b
/-- Which lines are shown. -/
def shown (l : List (Int × Int × Int)) : List Bool := orL (fwd 3 l) (bwd l).1

theorem shown_length (l : List (Int × Int × Int)) : (shown l).length = l.length := by
  simp [shown, orL, fwd_length, bwd_length]

/-- The text of a line of the script. -/
def lineOf (s1 : ByteArray) (z1 : List Int) (s2 : ByteArray) (z2 : List Int) (x : Int × Int × Int) : List UInt8 :=
  if x.1 = 43 then (segI s2 z2 x.2.2 (x.2.2 + 1)).data.toList else (segI s1 z1 x.2.1 (x.2.1 + 1)).data.toList

/-- Lines of one op, gathered. -/
def m5 (s1 : ByteArray) (z1 : List Int) (s2 : ByteArray) (z2 : List Int) (op : Int) : List (Bool × Int × Int × Int) → List UInt8 → Int → Int → List UInt8 × Int × Int × List (Bool × Int × Int × Int)
  | [], buf, fc, tc => (buf, fc, tc, [])
  | (b, x) :: r, buf, fc, tc => if b = true ∧ x.1 = op then m5 s1 z1 s2 z2 op r (buf ++ lineOf s1 z1 s2 z2 x) (if op = 43 then fc else fc + 1) (if op = 45 then tc else tc + 1) else (buf, fc, tc, (b, x) :: r)

/-- Runs of shown lines, gathered. -/
def m4 (s1 : ByteArray) (z1 : List Int) (s2 : ByteArray) (z2 : List Int) : Nat → List (Bool × Int × Int × Int) → List (Int × ByteArray) → Int → Int → List (Int × ByteArray) × Int × Int × List (Bool × Int × Int × Int)
  | f + 1, (true, x) :: r, runs, fc, tc =>
    m4 s1 z1 s2 z2 f (m5 s1 z1 s2 z2 x.1 ((true, x) :: r) [] fc tc).2.2.2 (addRun runs x.1 ⟨(m5 s1 z1 s2 z2 x.1 ((true, x) :: r) [] fc tc).1.toArray⟩) (m5 s1 z1 s2 z2 x.1 ((true, x) :: r) [] fc tc).2.1 (m5 s1 z1 s2 z2 x.1 ((true, x) :: r) [] fc tc).2.2.1
  | _, fl, runs, fc, tc => (runs, fc, tc, fl)

/-- The hunks. -/
def m3 (s1 : ByteArray) (z1 : List Int) (s2 : ByteArray) (z2 : List Int) : Nat → List (Bool × Int × Int × Int) → Int → Int → List Hk
  | f + 1, (false, x) :: r, fd, td => m3 s1 z1 s2 z2 f r (fd + 1) (td + 1)
  | f + 1, (true, x) :: r, fd, td =>
    ⟨bump (m4 s1 z1 s2 z2 (r.length + 1) ((true, x) :: r) [] 0 0).2.1 fd, bump (m4 s1 z1 s2 z2 (r.length + 1) ((true, x) :: r) [] 0 0).2.2.1 td, (m4 s1 z1 s2 z2 (r.length + 1) ((true, x) :: r) [] 0 0).2.1, (m4 s1 z1 s2 z2 (r.length + 1) ((true, x) :: r) [] 0 0).2.2.1, (m4 s1 z1 s2 z2 (r.length + 1) ((true, x) :: r) [] 0 0).1⟩ ::
      m3 s1 z1 s2 z2 f (m4 s1 z1 s2 z2 (r.length + 1) ((true, x) :: r) [] 0 0).2.2.2 (fd + (m4 s1 z1 s2 z2 (r.length + 1) ((true, x) :: r) [] 0 0).2.1) (td + (m4 s1 z1 s2 z2 (r.length + 1) ((true, x) :: r) [] 0 0).2.2.1)
  | _, _, _, _ => []

def modelM (s1 : ByteArray) (z1 : List Int) (s2 : ByteArray) (z2 : List Int) (l : List (Int × Int × Int)) : List Hk := m3 s1 z1 s2 z2 l.length ((shown l).zip l) 0 0
end Go.Proofs.Qxb6602907a
