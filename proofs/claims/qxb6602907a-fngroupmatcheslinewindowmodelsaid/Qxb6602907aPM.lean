/- The groups' hunks are the line-window model's hunks: plain lists, no program in sight. -/
import Derived.Test.Qxb6602907aMod
import Derived.Test.Qxb6602907aP1
namespace Go.Proofs.Qxb6602907a
set_option linter.unusedVariables false

abbrev Ln := Int × Int × Int
abbrev FLn := Bool × Int × Int × Int

def tag (b : Bool) (l : List Ln) : List FLn := l.map fun x => (b, x)

theorem keepSeg_len : ∀ (n : Nat) (i j : Int), (keepSeg n i j).length = n
  | 0, _, _ => rfl
  | n + 1, i, j => by simp [keepSeg, keepSeg_len n]
theorem delSeg_len : ∀ (n : Nat) (i j : Int), (delSeg n i j).length = n
  | 0, _, _ => rfl
  | n + 1, i, j => by simp [delSeg, delSeg_len n]
theorem insSeg_len : ∀ (n : Nat) (i j : Int), (insSeg n i j).length = n
  | 0, _, _ => rfl
  | n + 1, i, j => by simp [insSeg, insSeg_len n]

theorem keepSeg_split : ∀ (a b : Nat) (i j : Int), keepSeg (a + b) i j = keepSeg a i j ++ keepSeg b (i + a) (j + a)
  | 0, b, i, j => by simp [keepSeg]
  | a + 1, b, i, j => by
    rw [show a + 1 + b = (a + b) + 1 from by omega, keepSeg, keepSeg_split a b, keepSeg, List.cons_append, show i + 1 + (a : Int) = i + ((a + 1 : Nat) : Int) from by omega, show j + 1 + (a : Int) = j + ((a + 1 : Nat) : Int) from by omega]

theorem zip_rep (b : Bool) : ∀ (l : List Ln) (A : List Bool) (L : List Ln), (List.replicate l.length b ++ A).zip (l ++ L) = tag b l ++ A.zip L
  | [], _, _ => rfl
  | x :: l, A, L => by simp only [List.length_cons, List.replicate_succ, List.cons_append, List.zip_cons_cons, tag, List.map_cons]; exact congrArg _ (zip_rep b l A L)

/-! ### the flags -/
theorem fwd_keep : ∀ (n s : Nat) (i j : Int) (R : List Ln), s ≤ 3 → fwd s (keepSeg n i j ++ R) = List.replicate (min (3 - s) n) true ++ (List.replicate (n - (3 - s)) false ++ fwd (min 3 (s + n)) R)
  | 0, s, i, j, R, hs => by simp [keepSeg, show min 3 s = s from by omega]
  | n + 1, s, i, j, R, hs => by
    rw [keepSeg, List.cons_append, fwd, if_pos rfl]
    split
    · rw [fwd_keep n (s + 1) _ _ R (by omega), show min (3 - s) (n + 1) = min (3 - (s + 1)) n + 1 from by omega, show n + 1 - (3 - s) = n - (3 - (s + 1)) from by omega, List.replicate_succ, List.cons_append, show s + 1 + n = s + (n + 1) from by omega]
    · obtain rfl : s = 3 := by omega
      rw [fwd_keep n 3 _ _ R (by omega)]
      simp [List.replicate_succ, show min 3 (3 + n) = 3 from by omega, show min 3 (3 + (n + 1)) = 3 from by omega]
theorem fwd_del : ∀ (n s : Nat) (i j : Int) (R : List Ln), fwd s (delSeg n i j ++ R) = List.replicate n true ++ fwd (if n = 0 then s else 0) R
  | 0, s, i, j, R => by simp [delSeg]
  | n + 1, s, i, j, R => by
    rw [delSeg, List.cons_append, fwd, if_neg (by simp), fwd_del n 0]
    simp [List.replicate_succ]
theorem fwd_ins : ∀ (n s : Nat) (i j : Int) (R : List Ln), fwd s (insSeg n i j ++ R) = List.replicate n true ++ fwd (if n = 0 then s else 0) R
  | 0, s, i, j, R => by simp [insSeg]
  | n + 1, s, i, j, R => by
    rw [insSeg, List.cons_append, fwd, if_neg (by simp), fwd_ins n 0]
    simp [List.replicate_succ]
theorem bwd_del (R : List Ln) : ∀ (n : Nat) (i j : Int), bwd (delSeg n i j ++ R) = (List.replicate n false ++ (bwd R).1, if n = 0 then (bwd R).2 else 0)
  | 0, i, j => by simp [delSeg]
  | n + 1, i, j => by
    rw [delSeg, List.cons_append, bwd, if_neg (by simp), bwd_del R n]
    simp [List.replicate_succ]
theorem bwd_ins (R : List Ln) : ∀ (n : Nat) (i j : Int), bwd (insSeg n i j ++ R) = (List.replicate n false ++ (bwd R).1, if n = 0 then (bwd R).2 else 0)
  | 0, i, j => by simp [insSeg]
  | n + 1, i, j => by
    rw [insSeg, List.cons_append, bwd, if_neg (by simp), bwd_ins R n]
    simp [List.replicate_succ]
theorem bwd_keep (R : List Ln) (hk : (bwd R).2 ≤ 3) : ∀ (n : Nat) (i j : Int), bwd (keepSeg n i j ++ R) = (List.replicate (n - (3 - (bwd R).2)) false ++ (List.replicate (min (3 - (bwd R).2) n) true ++ (bwd R).1), min 3 ((bwd R).2 + n))
  | 0, i, j => by simp [keepSeg, show min 3 (bwd R).2 = (bwd R).2 from by omega]
  | n + 1, i, j => by
    rw [keepSeg, List.cons_append, bwd, if_pos rfl, bwd_keep R hk n]
    simp only
    split
    · rw [show n + 1 - (3 - (bwd R).2) = 0 from by omega, show n - (3 - (bwd R).2) = 0 from by omega, show min (3 - (bwd R).2) (n + 1) = min (3 - (bwd R).2) n + 1 from by omega]
      simp [List.replicate_succ]
      omega
    · rw [show n + 1 - (3 - (bwd R).2) = n - (3 - (bwd R).2) + 1 from by omega, show min (3 - (bwd R).2) (n + 1) = min (3 - (bwd R).2) n from by omega]
      simp [List.replicate_succ]
      omega

theorem orL_app {a b c d : List Bool} (h : a.length = b.length) : orL (a ++ c) (b ++ d) = orL a b ++ orL c d := by
  unfold orL
  exact List.zipWith_append h
theorem orL_rep (x y : Bool) : ∀ (n : Nat), orL (List.replicate n x) (List.replicate n y) = List.replicate n (x || y)
  | 0 => rfl
  | n + 1 => by simp [orL]
theorem orL_reps (x y : Bool) (n : Nat) (A B : List Bool) : orL (List.replicate n x ++ A) (List.replicate n y ++ B) = List.replicate n (x || y) ++ orL A B := by
  rw [orL_app (by simp), orL_rep]

/-- The flagged script, s unchanged lines behind a change. -/
def flag (s : Nat) (l : List Ln) : List FLn := (orL (fwd s l) (bwd l).1).zip l

theorem zip_keep (b : Bool) (n : Nat) (i j : Int) (A : List Bool) (L : List Ln) : (List.replicate n b ++ A).zip (keepSeg n i j ++ L) = tag b (keepSeg n i j) ++ A.zip L := by
  have := zip_rep b (keepSeg n i j) A L
  rwa [keepSeg_len] at this
theorem zip_del (b : Bool) (n : Nat) (i j : Int) (A : List Bool) (L : List Ln) : (List.replicate n b ++ A).zip (delSeg n i j ++ L) = tag b (delSeg n i j) ++ A.zip L := by
  have := zip_rep b (delSeg n i j) A L
  rwa [delSeg_len] at this
theorem zip_ins (b : Bool) (n : Nat) (i j : Int) (A : List Bool) (L : List Ln) : (List.replicate n b ++ A).zip (insSeg n i j ++ L) = tag b (insSeg n i j) ++ A.zip L := by
  have := zip_rep b (insSeg n i j) A L
  rwa [insSeg_len] at this

/-- The lines of one change, flagged; and what comes behind. -/
def chg (c : Ch) (R : List FLn) : List FLn := tag true (delSeg (c.i1 - c.i0).toNat c.i0 c.j0) ++ (tag true (insSeg (c.j1 - c.j0).toNat c.i1 c.j0) ++ R)

theorem flag_chg (s d e : Nat) (i j i' j' : Int) (R : List Ln) (h : 0 < d + e) :
    fwd s (delSeg d i j ++ (insSeg e i' j' ++ R)) = List.replicate d true ++ (List.replicate e true ++ fwd 0 R) ∧ bwd (delSeg d i j ++ (insSeg e i' j' ++ R)) = (List.replicate d false ++ (List.replicate e false ++ (bwd R).1), 0) := by
  rw [fwd_del, fwd_ins, bwd_del, bwd_ins]
  by_cases h1 : d = 0
  · have h2 : e ≠ 0 := by omega
    simp [h1, h2]
  · simp [h1]

theorem flag_gap (s g d e : Nat) (i j i' j' i'' j'' : Int) (R : List Ln) (hs : s ≤ 3) (h : 0 < d + e) :
    flag s (keepSeg g i j ++ (delSeg d i' j' ++ (insSeg e i'' j'' ++ R))) =
      (orL (List.replicate (min (3 - s) g) true ++ List.replicate (g - (3 - s)) false) (List.replicate (g - 3) false ++ List.replicate (min 3 g) true)).zip (keepSeg g i j) ++ (tag true (delSeg d i' j') ++ (tag true (insSeg e i'' j'') ++ flag 0 R)) := by
  unfold flag
  obtain ⟨f1, f2⟩ := flag_chg (min 3 (s + g)) d e i' j' i'' j'' R h
  rw [fwd_keep _ _ _ _ _ hs, f1, bwd_keep _ (by rw [f2]; simp), f2]
  simp only [Nat.sub_zero]
  rw [← List.append_assoc, ← List.append_assoc (List.replicate (g - 3) false), orL_app (by simp; omega), List.zip_append (by simp [orL, keepSeg_len]; omega), orL_reps, orL_reps]
  simp only [Bool.or_false]
  rw [zip_del, zip_ins]

theorem flag_first (g d e : Nat) (i j i' j' i'' j'' : Int) (R : List Ln) (h : 0 < d + e) :
    flag 3 (keepSeg g i j ++ (delSeg d i' j' ++ (insSeg e i'' j'' ++ R))) =
      tag false (keepSeg (g - 3) i j) ++ (tag true (keepSeg (min 3 g) (i + (g - 3 : Nat)) (j + (g - 3 : Nat))) ++ (tag true (delSeg d i' j') ++ (tag true (insSeg e i'' j'') ++ flag 0 R))) := by
  rw [flag_gap 3 g d e i j i' j' i'' j'' R (by omega) h]
  have e1 : (orL (List.replicate (min (3 - 3) g) true ++ List.replicate (g - (3 - 3)) false) (List.replicate (g - 3) false ++ List.replicate (min 3 g) true)) = List.replicate (g - 3) false ++ List.replicate (min 3 g) true := by
    simp only [Nat.sub_self, Nat.zero_min, List.replicate_zero, List.nil_append, Nat.sub_zero]
    conv => lhs; rw [show List.replicate g false = List.replicate (g - 3) false ++ List.replicate (min 3 g) false from by rw [List.replicate_append_replicate]; congr 1; omega]
    rw [orL_reps, orL_rep]; rfl
  rw [e1, show keepSeg g i j = keepSeg (g - 3 + min 3 g) i j from by congr 1; omega, keepSeg_split, zip_keep]
  have := zip_keep true (min 3 g) (i + (g - 3 : Nat)) (j + (g - 3 : Nat)) [] []
  simp only [List.append_nil, List.zip_nil_left] at this
  rw [this]
  simp only [List.append_assoc]

theorem flag_near (g d e : Nat) (i j i' j' i'' j'' : Int) (R : List Ln) (h : 0 < d + e) (hg : g ≤ 6) :
    flag 0 (keepSeg g i j ++ (delSeg d i' j' ++ (insSeg e i'' j'' ++ R))) = tag true (keepSeg g i j) ++ (tag true (delSeg d i' j') ++ (tag true (insSeg e i'' j'') ++ flag 0 R)) := by
  rw [flag_gap 0 g d e i j i' j' i'' j'' R (by omega) h]
  have e1 : (orL (List.replicate (min (3 - 0) g) true ++ List.replicate (g - (3 - 0)) false) (List.replicate (g - 3) false ++ List.replicate (min 3 g) true)) = List.replicate g true := by
    have : g = 0 ∨ g = 1 ∨ g = 2 ∨ g = 3 ∨ g = 4 ∨ g = 5 ∨ g = 6 := by omega
    rcases this with rfl | rfl | rfl | rfl | rfl | rfl | rfl <;> rfl
  have := zip_keep true g i j [] []
  simp only [List.append_nil, List.zip_nil_left] at this
  rw [e1, this]

theorem flag_far (g d e : Nat) (i j i' j' i'' j'' : Int) (R : List Ln) (h : 0 < d + e) (hg : 6 < g) :
    flag 0 (keepSeg g i j ++ (delSeg d i' j' ++ (insSeg e i'' j'' ++ R))) = tag true (keepSeg 3 i j) ++ (tag false (keepSeg (g - 6) (i + 3) (j + 3)) ++ (tag true (keepSeg 3 (i + (g - 3 : Nat)) (j + (g - 3 : Nat))) ++ (tag true (delSeg d i' j') ++ (tag true (insSeg e i'' j'') ++ flag 0 R)))) := by
  rw [flag_gap 0 g d e i j i' j' i'' j'' R (by omega) h]
  have e1 : (orL (List.replicate (min (3 - 0) g) true ++ List.replicate (g - (3 - 0)) false) (List.replicate (g - 3) false ++ List.replicate (min 3 g) true)) = List.replicate 3 true ++ (List.replicate (g - 6) false ++ List.replicate 3 true) := by
    rw [show min (3 - 0) g = 3 from by omega]
    conv => lhs; arg 1; rw [show List.replicate (g - (3 - 0)) false = List.replicate (g - 6) false ++ List.replicate 3 false from by rw [List.replicate_append_replicate]; congr 1; omega]
    conv => lhs; arg 2; rw [show List.replicate (g - 3) false = List.replicate 3 false ++ List.replicate (g - 6) false from by rw [List.replicate_append_replicate]; congr 1; omega, List.append_assoc]
    rw [orL_reps, orL_reps, orL_rep]
    rfl
  rw [e1, show keepSeg g i j = keepSeg (3 + ((g - 6) + 3)) i j from by congr 1; omega, keepSeg_split, keepSeg_split (g - 6) 3, zip_keep, zip_keep]
  have := zip_keep true 3 (i + (3 : Nat) + (g - 6 : Nat)) (j + (3 : Nat) + (g - 6 : Nat)) [] []
  simp only [List.append_nil, List.zip_nil_left] at this
  rw [this, show i + ((3 : Nat) : Int) + ((g - 6 : Nat) : Int) = i + ((g - 3 : Nat) : Int) from by omega, show j + ((3 : Nat) : Int) + ((g - 6 : Nat) : Int) = j + ((g - 3 : Nat) : Int) from by omega]
  simp only [List.append_assoc]
  rfl

theorem flag_end3 (g : Nat) (i j : Int) : flag 3 (keepSeg g i j) = tag false (keepSeg g i j) := by
  unfold flag
  have f := fwd_keep g 3 i j [] (by omega)
  have b := bwd_keep [] (by simp [bwd]) g i j
  have := zip_keep false g i j [] []
  simp only [List.append_nil, List.zip_nil_left] at f b this
  rw [f, b]
  simp only [fwd, bwd, Nat.sub_self, Nat.zero_min, List.replicate_zero, List.nil_append, Nat.sub_zero, List.append_nil]
  rw [orL_rep]
  exact this
theorem flag_end0 (g : Nat) (i j : Int) : flag 0 (keepSeg g i j) = tag true (keepSeg (min 3 g) i j) ++ tag false (keepSeg (g - 3) (i + (min 3 g : Nat)) (j + (min 3 g : Nat))) := by
  unfold flag
  have f := fwd_keep g 0 i j [] (by omega)
  have b := bwd_keep [] (by simp [bwd]) g i j
  have e := zip_keep false (g - 3) (i + (min 3 g : Nat)) (j + (min 3 g : Nat)) [] []
  simp only [List.append_nil, List.zip_nil_left] at f b e
  rw [f, b]
  simp only [fwd, bwd, Nat.sub_self, Nat.zero_min, List.replicate_zero, Nat.sub_zero, List.append_nil]
  rw [show List.replicate g false = List.replicate (min 3 g) false ++ List.replicate (g - 3) false from by rw [List.replicate_append_replicate]; congr 1; omega, orL_reps, orL_rep]
  conv => lhs; rw [show keepSeg g i j = keepSeg (min 3 g + (g - 3)) i j from by congr 1; omega]
  rw [keepSeg_split, zip_keep]
  simp only [Bool.or_false, Bool.or_self]
  rw [e]

/-! ### the walk over the flagged script -/
section
variable (s1 : ByteArray) (z1 : List Int) (s2 : ByteArray) (z2 : List Int)

theorem m5_len' (op : Int) : ∀ (fl : List FLn) (buf : List UInt8) (fc tc : Int), (m5 s1 z1 s2 z2 op fl buf fc tc).2.2.2.length ≤ fl.length
  | [], _, _, _ => by simp [m5]
  | (b, x) :: r, buf, fc, tc => by
    rw [m5]
    split
    · have := m5_len' op r (buf ++ lineOf s1 z1 s2 z2 x) (if op = 43 then fc else fc + 1) (if op = 45 then tc else tc + 1)
      simp only [List.length_cons]; omega
    · simp
theorem m5_rest' (op : Int) (x : Ln) (r : List FLn) (buf : List UInt8) (fc tc : Int) (h : x.1 = op) : (m5 s1 z1 s2 z2 op ((true, x) :: r) buf fc tc).2.2.2.length ≤ r.length := by
  rw [m5, if_pos ⟨rfl, h⟩]
  exact m5_len' _ _ _ _ _ _ _ _ _
theorem m4_fuel : ∀ (f f' : Nat) (fl : List FLn) (runs : List (Int × ByteArray)) (fc tc : Int), fl.length ≤ f → fl.length ≤ f' → m4 s1 z1 s2 z2 f fl runs fc tc = m4 s1 z1 s2 z2 f' fl runs fc tc
  | 0, f', fl, runs, fc, tc, h, h' => by
    obtain rfl : fl = [] := List.eq_nil_of_length_eq_zero (by omega)
    cases f' <;> simp [m4]
  | f + 1, f', [], runs, fc, tc, h, h' => by cases f' <;> simp [m4]
  | f + 1, f', (false, x) :: r, runs, fc, tc, h, h' => by cases f' <;> simp [m4]
  | f + 1, f', (true, x) :: r, runs, fc, tc, h, h' => by
    obtain ⟨k, rfl⟩ : ∃ k, f' = k + 1 := ⟨f' - 1, by simp only [List.length_cons] at h'; omega⟩
    rw [m4, m4]
    have := m5_rest' s1 z1 s2 z2 x.1 x r [] fc tc rfl
    simp only [List.length_cons] at h h'
    exact m4_fuel f k _ _ _ _ (by omega) (by omega)

/-- No shown line of this op stands at the head. -/
def noHead (op : Int) (L : List FLn) : Prop := ∀ x r, L = (true, x) :: r → x.1 ≠ op

theorem m5_stop (op : Int) (L : List FLn) (h : noHead op L) (buf : List UInt8) (fc tc : Int) : m5 s1 z1 s2 z2 op L buf fc tc = (buf, fc, tc, L) := by
  match L with
  | [] => rfl
  | (b, x) :: r =>
    rw [m5, if_neg]
    rintro ⟨rfl, e⟩
    exact h x r rfl e

variable {s1 z1 s2 z2} (h1 : TextOK s1 z1) (h2 : TextOK s2 z2)
include h1 in
theorem m5_keep (L : List FLn) (h : noHead 32 L) : ∀ (n : Nat) (i j : Int) (buf : List UInt8) (fc tc : Int), 0 ≤ i → i + n < z1.length → m5 s1 z1 s2 z2 32 (tag true (keepSeg n i j) ++ L) buf fc tc = (buf ++ T s1 z1 i (i + n), fc + n, tc + n, L)
  | 0, i, j, buf, fc, tc, hi, hn => by simp [keepSeg, tag, m5_stop _ _ _ _ _ _ h, T_self]
  | n + 1, i, j, buf, fc, tc, hi, hn => by
    simp only [keepSeg, tag, List.map_cons, List.cons_append]
    rw [m5, if_pos ⟨rfl, rfl⟩]
    have := m5_keep L h n (i + 1) (j + 1) (buf ++ lineOf s1 z1 s2 z2 (32, i, j)) (fc + 1) (tc + 1) (by omega) (by omega)
    unfold tag at this
    simp only [show ¬ ((32 : Int) = 43) by decide, show ¬ ((32 : Int) = 45) by decide, if_false]
    rw [this, List.append_assoc]
    have hl : lineOf s1 z1 s2 z2 (32, i, j) = T s1 z1 i (i + 1) := by simp [lineOf, T]
    rw [hl, T_append h1 hi (by omega) (by omega) (by omega), show i + 1 + (n : Int) = i + ((n + 1 : Nat) : Int) from by omega, show fc + 1 + (n : Int) = fc + ((n + 1 : Nat) : Int) from by omega, show tc + 1 + (n : Int) = tc + ((n + 1 : Nat) : Int) from by omega]
include h1 in
theorem m5_del (L : List FLn) (h : noHead 45 L) : ∀ (n : Nat) (i j : Int) (buf : List UInt8) (fc tc : Int), 0 ≤ i → i + n < z1.length → m5 s1 z1 s2 z2 45 (tag true (delSeg n i j) ++ L) buf fc tc = (buf ++ T s1 z1 i (i + n), fc + n, tc, L)
  | 0, i, j, buf, fc, tc, hi, hn => by simp [delSeg, tag, m5_stop _ _ _ _ _ _ h, T_self]
  | n + 1, i, j, buf, fc, tc, hi, hn => by
    simp only [delSeg, tag, List.map_cons, List.cons_append]
    rw [m5, if_pos ⟨rfl, rfl⟩]
    have := m5_del L h n (i + 1) j (buf ++ lineOf s1 z1 s2 z2 (45, i, j)) (fc + 1) tc (by omega) (by omega)
    unfold tag at this
    simp only [show ¬ ((45 : Int) = 43) by decide, if_false, if_true]
    rw [this, List.append_assoc]
    have hl : lineOf s1 z1 s2 z2 (45, i, j) = T s1 z1 i (i + 1) := by simp [lineOf, T]
    rw [hl, T_append h1 hi (by omega) (by omega) (by omega), show i + 1 + (n : Int) = i + ((n + 1 : Nat) : Int) from by omega, show fc + 1 + (n : Int) = fc + ((n + 1 : Nat) : Int) from by omega]
include h2 in
theorem m5_ins (L : List FLn) (h : noHead 43 L) : ∀ (n : Nat) (i j : Int) (buf : List UInt8) (fc tc : Int), 0 ≤ j → j + n < z2.length → m5 s1 z1 s2 z2 43 (tag true (insSeg n i j) ++ L) buf fc tc = (buf ++ T s2 z2 j (j + n), fc, tc + n, L)
  | 0, i, j, buf, fc, tc, hi, hn => by simp [insSeg, tag, m5_stop _ _ _ _ _ _ h, T_self]
  | n + 1, i, j, buf, fc, tc, hi, hn => by
    simp only [insSeg, tag, List.map_cons, List.cons_append]
    rw [m5, if_pos ⟨rfl, rfl⟩]
    have := m5_ins L h n i (j + 1) (buf ++ lineOf s1 z1 s2 z2 (43, i, j)) fc (tc + 1) (by omega) (by omega)
    unfold tag at this
    simp only [show ¬ ((43 : Int) = 45) by decide, if_false, if_true]
    rw [this, List.append_assoc]
    have hl : lineOf s1 z1 s2 z2 (43, i, j) = T s2 z2 j (j + 1) := by simp [lineOf, T]
    rw [hl, T_append h2 hi (by omega) (by omega) (by omega), show j + 1 + (n : Int) = j + ((n + 1 : Nat) : Int) from by omega, show tc + 1 + (n : Int) = tc + ((n + 1 : Nat) : Int) from by omega]

theorem T_arr (s : ByteArray) (z : List Int) (i j : Int) : (⟨(T s z i j).toArray⟩ : ByteArray) = segI s z i j := by unfold T; simp
theorem seg_self (s : ByteArray) (z : List Int) (i : Int) : (segI s z i i).size = 0 := by
  have := congrArg List.length (T_self s z i)
  simpa [T] using this
theorem addRun_self (rs : List (Int × ByteArray)) (op : Int) (s : ByteArray) (z : List Int) (i : Int) : addRun rs op (segI s z i i) = rs := by
  rw [addRun, if_pos (seg_self _ _ _)]

include h1 in
theorem m4_keep (L : List FLn) (h : noHead 32 L) (n f : Nat) (i i' j : Int) (runs : List (Int × ByteArray)) (fc tc : Int) (hi : 0 ≤ i) (hn : i + n < z1.length) (he : i' = i + n) (hf : n + L.length ≤ f) :
    m4 s1 z1 s2 z2 f (tag true (keepSeg n i j) ++ L) runs fc tc = m4 s1 z1 s2 z2 f L (addRun runs 32 (segI s1 z1 i i')) (fc + n) (tc + n) := by
  subst he
  cases n with
  | zero =>
    simp only [keepSeg, tag, List.map_nil, List.nil_append]
    rw [show i + ((0 : Nat) : Int) = i from by omega, addRun_self, show fc + ((0 : Nat) : Int) = fc from by omega, show tc + ((0 : Nat) : Int) = tc from by omega]
  | succ n =>
    obtain ⟨f, rfl⟩ : ∃ k, f = k + 1 := ⟨f - 1, by omega⟩
    have hs := m5_keep (s2 := s2) (z2 := z2) h1 L h (n + 1) i j [] fc tc hi hn
    simp only [keepSeg, tag, List.map_cons, List.cons_append] at hs ⊢
    rw [m4, hs]
    simp only [List.nil_append, T_arr]
    exact m4_fuel _ _ _ _ _ _ _ _ _ _ (by omega) (by omega)
include h1 in
theorem m4_del (L : List FLn) (h : noHead 45 L) (n f : Nat) (i i' j : Int) (runs : List (Int × ByteArray)) (fc tc : Int) (hi : 0 ≤ i) (hn : i + n < z1.length) (he : i' = i + n) (hf : n + L.length ≤ f) :
    m4 s1 z1 s2 z2 f (tag true (delSeg n i j) ++ L) runs fc tc = m4 s1 z1 s2 z2 f L (addRun runs 45 (segI s1 z1 i i')) (fc + n) tc := by
  subst he
  cases n with
  | zero =>
    simp only [delSeg, tag, List.map_nil, List.nil_append]
    rw [show i + ((0 : Nat) : Int) = i from by omega, addRun_self, show fc + ((0 : Nat) : Int) = fc from by omega]
  | succ n =>
    obtain ⟨f, rfl⟩ : ∃ k, f = k + 1 := ⟨f - 1, by omega⟩
    have hs := m5_del (s2 := s2) (z2 := z2) h1 L h (n + 1) i j [] fc tc hi hn
    simp only [delSeg, tag, List.map_cons, List.cons_append] at hs ⊢
    rw [m4, hs]
    simp only [List.nil_append, T_arr]
    exact m4_fuel _ _ _ _ _ _ _ _ _ _ (by omega) (by omega)
include h2 in
theorem m4_ins (L : List FLn) (h : noHead 43 L) (n f : Nat) (i j j' : Int) (runs : List (Int × ByteArray)) (fc tc : Int) (hi : 0 ≤ j) (hn : j + n < z2.length) (he : j' = j + n) (hf : n + L.length ≤ f) :
    m4 s1 z1 s2 z2 f (tag true (insSeg n i j) ++ L) runs fc tc = m4 s1 z1 s2 z2 f L (addRun runs 43 (segI s2 z2 j j')) fc (tc + n) := by
  subst he
  cases n with
  | zero =>
    simp only [insSeg, tag, List.map_nil, List.nil_append]
    rw [show j + ((0 : Nat) : Int) = j from by omega, addRun_self, show tc + ((0 : Nat) : Int) = tc from by omega]
  | succ n =>
    obtain ⟨f, rfl⟩ : ∃ k, f = k + 1 := ⟨f - 1, by omega⟩
    have hs := m5_ins (s1 := s1) (z1 := z1) h2 L h (n + 1) i j [] fc tc hi hn
    simp only [insSeg, tag, List.map_cons, List.cons_append] at hs ⊢
    rw [m4, hs]
    simp only [List.nil_append, T_arr]
    exact m4_fuel _ _ _ _ _ _ _ _ _ _ (by omega) (by omega)

/-! ### a group is one hunk -/
theorem noHead_keep (op : Int) (hop : op ≠ 32) (b : Bool) (n : Nat) (i j : Int) (L : List FLn) (h : n = 0 → noHead op L) : noHead op (tag b (keepSeg n i j) ++ L) := by
  cases n with
  | zero => simpa [keepSeg, tag] using h rfl
  | succ n =>
    intro x r e
    simp only [keepSeg, tag, List.map_cons, List.cons_append, List.cons.injEq, Prod.mk.injEq] at e
    obtain ⟨⟨_, rfl⟩, _⟩ := e
    exact fun h' => hop h'.symm
theorem noHead_del (op : Int) (hop : op ≠ 45) (b : Bool) (n : Nat) (i j : Int) (L : List FLn) (h : n = 0 → noHead op L) : noHead op (tag b (delSeg n i j) ++ L) := by
  cases n with
  | zero => simpa [delSeg, tag] using h rfl
  | succ n =>
    intro x r e
    simp only [delSeg, tag, List.map_cons, List.cons_append, List.cons.injEq, Prod.mk.injEq] at e
    obtain ⟨⟨_, rfl⟩, _⟩ := e
    exact fun h' => hop h'.symm
theorem noHead_ins (op : Int) (hop : op ≠ 43) (b : Bool) (n : Nat) (i j : Int) (L : List FLn) (h : n = 0 → noHead op L) : noHead op (tag b (insSeg n i j) ++ L) := by
  cases n with
  | zero => simpa [insSeg, tag] using h rfl
  | succ n =>
    intro x r e
    simp only [insSeg, tag, List.map_cons, List.cons_append, List.cons.injEq, Prod.mk.injEq] at e
    obtain ⟨⟨_, rfl⟩, _⟩ := e
    exact fun h' => hop h'.symm
theorem noHead_nil (op : Int) : noHead op [] := fun x r e => by cases e
theorem noHead_false (op : Int) (n : Nat) (i j : Int) (L : List FLn) (h : n = 0 → noHead op L) : noHead op (tag false (keepSeg n i j) ++ L) := by
  cases n with
  | zero => simpa [keepSeg, tag] using h rfl
  | succ n =>
    intro x r e
    simp only [keepSeg, tag, List.map_cons, List.cons_append, List.cons.injEq, Prod.mk.injEq] at e
    cases e.1.1

/-- m4 ends ahead of a hidden line or the end. -/
theorem m4_end (s1 : ByteArray) (z1 : List Int) (s2 : ByteArray) (z2 : List Int) (f : Nat) (L : List FLn) (h : ∀ x r, L ≠ (true, x) :: r) (runs : List (Int × ByteArray)) (fc tc : Int) : m4 s1 z1 s2 z2 f L runs fc tc = (runs, fc, tc, L) := by
  unfold m4
  split
  · exact absurd rfl (h _ _)
  · rfl

theorem hidden_head (n : Nat) (i j : Int) (L : List FLn) (hn : 0 < n) : ∀ x r, tag false (keepSeg n i j) ++ L ≠ (true, x) :: r := by
  obtain ⟨k, rfl⟩ : ∃ k, n = k + 1 := ⟨n - 1, by omega⟩
  intro x r e
  simp [keepSeg, tag] at e
theorem hidden_all (n : Nat) (i j : Int) : ∀ x r, tag false (keepSeg n i j) ≠ (true, x) :: r := by
  cases n with
  | zero => intro x r e; simp [keepSeg, tag] at e
  | succ k => intro x r e; simp [keepSeg, tag] at e

/-- The rest of the flagged script behind a change; from a group's first shown line; from a hidden line on. -/
def fl0 (nF : Int) (r : List Ch) (i j : Int) : List FLn := flag 0 (scr nF r i j)
def big (nF : Int) (c : Ch) (r : List Ch) : List FLn := tag true (keepSeg (c.i0 - hI0 c).toNat (hI0 c) (hJ0 c)) ++ chg c (fl0 nF r c.i1 c.j1)
def aft (nF : Int) (cs : List Ch) (I J : Int) : List FLn :=
  match cs with
  | [] => tag false (keepSeg (nF - I).toNat I J)
  | d :: r => tag false (keepSeg (hI0 d - I).toNat I J) ++ big nF d r

theorem chg_len (c : Ch) (R : List FLn) : (chg c R).length = (c.i1 - c.i0).toNat + (c.j1 - c.j0).toNat + R.length := by
  simp [chg, tag, delSeg_len, insSeg_len]; omega

theorem fl0_noHead (nF nT : Int) (r : List Ch) (i j : Int) (hk : COK nF nT false i j r) (op : Int) (hop : op ≠ 32) : noHead op (fl0 nF r i j) := by
  cases r with
  | nil =>
    unfold fl0
    rw [scr, flag_end0]
    exact noHead_keep op hop true _ _ _ _ fun _ => by
      have := noHead_false op ((nF - i).toNat - 3) (i + (min 3 (nF - i).toNat : Nat)) (j + (min 3 (nF - i).toNat : Nat)) [] (fun _ => noHead_nil op)
      simpa using this
  | cons d r =>
    obtain ⟨k1, k2, k3, k4, k5⟩ := hk
    have k3 := k3 rfl
    unfold fl0
    rw [scr_cons (by omega) k4 k1.2.1 k1.2.2.2.2.1]
    by_cases hg : (d.i0 - i).toNat ≤ 6
    · rw [flag_near _ _ _ _ _ _ _ _ _ _ (by omega) hg]
      exact noHead_keep op hop true _ _ _ _ fun h => by omega
    · rw [flag_far _ _ _ _ _ _ _ _ _ _ (by omega) (by omega)]
      exact noHead_keep op hop true _ _ _ _ fun h => by omega

section
variable {s1 : ByteArray} {z1 : List Int} {s2 : ByteArray} {z2 : List Int} {nF nT : Int}

theorem m4_chg (h1 : TextOK s1 z1) (h2 : TextOK s2 z2) (hF : nF = (z1.length : Int) - 1) (hT : nT = (z2.length : Int) - 1) (c : Ch) (r : List Ch) (a b : Int) (runs : List (Int × ByteArray)) (fc tc : Int) (f : Nat)
    (ha : 0 ≤ a ∧ a ≤ c.i0) (hab : c.i0 - a = c.j0 - b) (k1 : 0 ≤ c.i0 ∧ c.i0 ≤ c.i1 ∧ c.i1 ≤ nF ∧ 0 ≤ c.j0 ∧ c.j0 ≤ c.j1 ∧ c.j1 ≤ nT) (k2 : ¬ (c.i0 = c.i1 ∧ c.j0 = c.j1)) (k5 : COK nF nT false c.i1 c.j1 r)
    (hf : (c.i0 - a).toNat + (chg c (fl0 nF r c.i1 c.j1)).length ≤ f) :
    m4 s1 z1 s2 z2 f (tag true (keepSeg (c.i0 - a).toNat a b) ++ chg c (fl0 nF r c.i1 c.j1)) runs fc tc = m4 s1 z1 s2 z2 f (fl0 nF r c.i1 c.j1) (stepRuns s1 z1 s2 z2 (runs, a) c).1 (fc + (c.i1 - a)) (tc + (c.j1 - b)) := by
  rw [chg_len] at hf
  rw [m4_keep h1 _ ?_ (c.i0 - a).toNat f a c.i0 b runs fc tc ha.1 (by omega) (by omega) (by rw [chg_len]; omega)]
  · unfold chg
    rw [m4_del h1 _ ?_ (c.i1 - c.i0).toNat f c.i0 c.i1 c.j0 _ _ _ (by omega) (by omega) (by omega) (by simp [tag, insSeg_len]; omega)]
    · rw [m4_ins h2 _ ?_ (c.j1 - c.j0).toNat f c.i1 c.j0 c.j1 _ _ _ (by omega) (by omega) (by omega) (by omega)]
      · simp only [stepRuns]
        congr 1 <;> omega
      · exact fl0_noHead nF nT r c.i1 c.j1 k5 43 (by decide)
    · exact noHead_ins 45 (by decide) true _ _ _ _ fun _ => fl0_noHead nF nT r c.i1 c.j1 k5 45 (by decide)
  · unfold chg
    exact noHead_del 32 (by decide) true _ _ _ _ fun h => noHead_ins 32 (by decide) true _ _ _ _ fun h' => by omega

theorem m4_group (h1 : TextOK s1 z1) (h2 : TextOK s2 z2) (hF : nF = (z1.length : Int) - 1) (hT : nT = (z2.length : Int) - 1) : ∀ (r : List Ch) (c : Ch) (a b : Int) (runs : List (Int × ByteArray)) (fc tc : Int) (f : Nat),
    (0 ≤ a ∧ a ≤ c.i0) → c.i0 - a = c.j0 - b → (0 ≤ c.i0 ∧ c.i0 ≤ c.i1 ∧ c.i1 ≤ nF ∧ 0 ≤ c.j0 ∧ c.j0 ≤ c.j1 ∧ c.j1 ≤ nT) → ¬ (c.i0 = c.i1 ∧ c.j0 = c.j1) → COK nF nT false c.i1 c.j1 r →
    (c.i0 - a).toNat + (chg c (fl0 nF r c.i1 c.j1)).length ≤ f →
    m4 s1 z1 s2 z2 f (tag true (keepSeg (c.i0 - a).toNat a b) ++ chg c (fl0 nF r c.i1 c.j1)) runs fc tc =
      (addRun ((c :: r.take (gcnt c r)).foldl (stepRuns s1 z1 s2 z2) (runs, a)).1 32 (segI s1 z1 ((c :: r.take (gcnt c r)).foldl (stepRuns s1 z1 s2 z2) (runs, a)).2 (hI1 nF (lastOf c (r.take (gcnt c r))))),
        fc + (hI1 nF (lastOf c (r.take (gcnt c r))) - a), tc + (hJ1 nF (lastOf c (r.take (gcnt c r))) - b), aft nF (r.drop (gcnt c r)) (hI1 nF (lastOf c (r.take (gcnt c r)))) (hJ1 nF (lastOf c (r.take (gcnt c r)))))
  | [], c, a, b, runs, fc, tc, f, ha, hab, k1, k2, k5, hf => by
    rw [m4_chg h1 h2 hF hT c [] a b runs fc tc f ha hab k1 k2 k5 hf]
    rw [chg_len] at hf
    have k5' : nF - c.i1 = nT - c.j1 := k5
    have hl : (fl0 nF [] c.i1 c.j1).length = (nF - c.i1).toNat := by
      unfold fl0; rw [scr, flag_end0]; simp [tag, keepSeg_len]; omega
    simp only [gcnt, List.take_nil, List.drop_nil, lastOf, List.getLast?_nil, Option.getD_none, List.foldl_cons, List.foldl_nil]
    unfold fl0
    rw [scr, flag_end0]
    have eI : hI1 nF c = c.i1 + ((min 3 (nF - c.i1).toNat : Nat) : Int) := by unfold hI1; omega
    have eJ : hJ1 nF c = c.j1 + ((min 3 (nF - c.i1).toNat : Nat) : Int) := by unfold hJ1; rw [eI]; omega
    rw [m4_keep h1 _ ?_ (min 3 (nF - c.i1).toNat) f c.i1 (hI1 nF c) c.j1 _ _ _ (by omega) (by omega) eI (by simp [tag, keepSeg_len]; omega)]
    · rw [m4_end _ _ _ _ _ _ (hidden_all _ _ _), aft, ← eI, ← eJ, show (nF - c.i1).toNat - 3 = (nF - hI1 nF c).toNat from by omega]
      refine Prod.ext rfl (Prod.ext ?_ (Prod.ext ?_ rfl))
      · simp only; omega
      · simp only; omega
    · have := noHead_false 32 ((nF - c.i1).toNat - 3) (c.i1 + (min 3 (nF - c.i1).toNat : Nat)) (c.j1 + (min 3 (nF - c.i1).toNat : Nat)) [] (fun _ => noHead_nil 32)
      simpa using this
  | d :: r, c, a, b, runs, fc, tc, f, ha, hab, k1, k2, k5, hf => by
    rw [m4_chg h1 h2 hF hT c (d :: r) a b runs fc tc f ha hab k1 k2 k5 hf]
    rw [chg_len] at hf
    obtain ⟨q1, q2, q3, q4, q5⟩ := k5
    have q3 := q3 rfl
    have hs : scr nF (d :: r) c.i1 c.j1 = _ := scr_cons (nF := nF) (r := r) (show c.i1 ≤ d.i0 by omega) q4 q1.2.1 q1.2.2.2.2.1
    by_cases hg : d.i0 - c.i1 ≤ 6
    · have e : gcnt c (d :: r) = gcnt d r + 1 := by rw [gcnt, if_pos hg]
      have hfl : fl0 nF (d :: r) c.i1 c.j1 = tag true (keepSeg (d.i0 - c.i1).toNat c.i1 c.j1) ++ chg d (fl0 nF r d.i1 d.j1) := by
        unfold fl0 chg
        rw [hs, flag_near _ _ _ _ _ _ _ _ _ _ (by omega) (by omega)]
      rw [hfl] at hf ⊢
      rw [m4_group h1 h2 hF hT r d c.i1 c.j1 _ _ _ f (by omega) q4 q1 q2 q5 (by simp only [List.length_append, tag, List.length_map, keepSeg_len] at hf; omega)]
      rw [e]
      simp only [List.take_succ_cons, List.drop_succ_cons, lastOf_cons, List.foldl_cons]
      refine Prod.ext rfl (Prod.ext ?_ (Prod.ext ?_ rfl))
      · simp only; omega
      · simp only; omega
    · have e : gcnt c (d :: r) = 0 := by rw [gcnt, if_neg hg]
      rw [e]
      simp only [List.take_zero, List.drop_zero, lastOf, List.getLast?_nil, Option.getD_none, List.foldl_cons, List.foldl_nil]
      have eI : hI1 nF c = c.i1 + 3 := by unfold hI1; omega
      have eJ : hJ1 nF c = c.j1 + 3 := by unfold hJ1; rw [eI]; omega
      have fI : hI0 d = d.i0 - 3 := by unfold hI0; omega
      have fJ : hJ0 d = d.j0 - 3 := by unfold hJ0; rw [fI]; omega
      have hfl : fl0 nF (d :: r) c.i1 c.j1 = tag true (keepSeg 3 c.i1 c.j1) ++ aft nF (d :: r) (c.i1 + 3) (c.j1 + 3) := by
        unfold fl0
        rw [hs, flag_far _ _ _ _ _ _ _ _ _ _ (by omega) (by omega), aft, big, fI, fJ]
        unfold chg fl0
        rw [show (d.i0 - c.i1).toNat - 6 = (d.i0 - 3 - (c.i1 + 3)).toNat from by omega, show c.i1 + (((d.i0 - c.i1).toNat - 3 : Nat) : Int) = d.i0 - 3 from by omega, show c.j1 + (((d.i0 - c.i1).toNat - 3 : Nat) : Int) = d.j0 - 3 from by omega, show (d.i0 - (d.i0 - 3)).toNat = 3 from by omega]
      rw [hfl] at hf ⊢
      rw [m4_keep h1 _ ?_ 3 f c.i1 (hI1 nF c) c.j1 _ _ _ (by omega) (by omega) (by rw [eI]; rfl) (by simp only [List.length_append, tag, List.length_map, keepSeg_len] at hf; omega)]
      · rw [eI, eJ, m4_end _ _ _ _ _ _ ?_]
        · refine Prod.ext rfl (Prod.ext ?_ (Prod.ext ?_ rfl))
          · simp only; omega
          · simp only; omega
        · exact hidden_head _ _ _ _ (by omega)
      · exact noHead_false 32 _ _ _ _ fun h => by omega

theorem m4_len' (s1 : ByteArray) (z1 : List Int) (s2 : ByteArray) (z2 : List Int) : ∀ (f : Nat) (fl : List FLn) (runs : List (Int × ByteArray)) (fc tc : Int), (m4 s1 z1 s2 z2 f fl runs fc tc).2.2.2.length ≤ fl.length
  | 0, fl, _, _, _ => by cases fl <;> simp [m4]
  | f + 1, [], _, _, _ => by simp [m4]
  | f + 1, (false, x) :: r, _, _, _ => by simp [m4]
  | f + 1, (true, x) :: r, runs, fc, tc => by
    rw [m4]
    exact Nat.le_trans (m4_len' s1 z1 s2 z2 f _ _ _ _) (Nat.le_trans (m5_rest' s1 z1 s2 z2 x.1 x r [] fc tc rfl) (by simp))
theorem m4_rest' (s1 : ByteArray) (z1 : List Int) (s2 : ByteArray) (z2 : List Int) (f : Nat) (x : Ln) (r : List FLn) (runs : List (Int × ByteArray)) (fc tc : Int) : (m4 s1 z1 s2 z2 (f + 1) ((true, x) :: r) runs fc tc).2.2.2.length ≤ r.length := by
  rw [m4]
  exact Nat.le_trans (m4_len' s1 z1 s2 z2 f _ _ _ _) (m5_rest' s1 z1 s2 z2 x.1 x r [] fc tc rfl)

/-- What stands behind the group that begins with c. -/
theorem grp' : ∀ (r : List Ch) (c : Ch), (0 ≤ c.i0 ∧ c.i0 ≤ c.i1 ∧ c.i1 ≤ nF ∧ 0 ≤ c.j0 ∧ c.j0 ≤ c.j1 ∧ c.j1 ≤ nT) → COK nF nT false c.i1 c.j1 r →
    COK nF nT false (lastOf c (r.take (gcnt c r))).i1 (lastOf c (r.take (gcnt c r))).j1 (r.drop (gcnt c r)) ∧
    (∀ d r', r.drop (gcnt c r) = d :: r' → 6 < d.i0 - (lastOf c (r.take (gcnt c r))).i1) ∧
    (c.i1 ≤ (lastOf c (r.take (gcnt c r))).i1 ∧ (lastOf c (r.take (gcnt c r))).i1 ≤ nF ∧ c.j1 ≤ (lastOf c (r.take (gcnt c r))).j1 ∧ (lastOf c (r.take (gcnt c r))).j1 ≤ nT)
  | [], c, hb, hk => by
    simp only [gcnt, List.take_nil, List.drop_nil, lastOf, List.getLast?_nil, Option.getD_none]
    exact ⟨hk, fun d r' h => by (cases h), by omega⟩
  | d :: r, c, hb, hk => by
    by_cases hg : d.i0 - c.i1 ≤ 6
    · have e : gcnt c (d :: r) = gcnt d r + 1 := by rw [gcnt, if_pos hg]
      obtain ⟨k1, k2, k3, k4, k5⟩ := hk
      have k3 := k3 rfl
      obtain ⟨m2, m4, m5⟩ := grp' r d k1 k5
      rw [e]
      simp only [List.take_succ_cons, List.drop_succ_cons, lastOf_cons]
      exact ⟨m2, m4, by omega⟩
    · have e : gcnt c (d :: r) = 0 := by rw [gcnt, if_neg hg]
      rw [e]
      simp only [List.take_zero, List.drop_zero, lastOf, List.getLast?_nil, Option.getD_none]
      exact ⟨hk, fun d' r' h => by cases h; omega, by omega⟩

theorem m3_hidden (s1 : ByteArray) (z1 : List Int) (s2 : ByteArray) (z2 : List Int) (L : List FLn) : ∀ (n f : Nat) (i j fd td : Int), n ≤ f → m3 s1 z1 s2 z2 f (tag false (keepSeg n i j) ++ L) fd td = m3 s1 z1 s2 z2 (f - n) L (fd + n) (td + n)
  | 0, f, i, j, fd, td, h => by simp [keepSeg, tag]
  | n + 1, f, i, j, fd, td, h => by
    obtain ⟨f, rfl⟩ : ∃ k, f = k + 1 := ⟨f - 1, by omega⟩
    simp only [keepSeg, tag, List.map_cons, List.cons_append]
    rw [m3]
    have := m3_hidden s1 z1 s2 z2 L n f (i + 1) (j + 1) (fd + 1) (td + 1) (by omega)
    unfold tag at this
    rw [this, show f + 1 - (n + 1) = f - n from by omega, show fd + 1 + (n : Int) = fd + ((n + 1 : Nat) : Int) from by omega, show td + 1 + (n : Int) = td + ((n + 1 : Nat) : Int) from by omega]

theorem m3_big {L fl : List FLn} {x : Ln} {r : List FLn} {f : Nat} {fd td fc tc : Int} {runs : List (Int × ByteArray)} (hL : L = (true, x) :: r) (h : m4 s1 z1 s2 z2 L.length L [] 0 0 = (runs, fc, tc, fl)) :
    m3 s1 z1 s2 z2 (f + 1) L fd td = ⟨bump fc fd, bump tc td, fc, tc, runs⟩ :: m3 s1 z1 s2 z2 f fl (fd + fc) (td + tc) := by
  subst hL
  rw [List.length_cons] at h
  rw [m3, h]

theorem m3_nil (s1 : ByteArray) (z1 : List Int) (s2 : ByteArray) (z2 : List Int) (f : Nat) (fd td : Int) : m3 s1 z1 s2 z2 f [] fd td = [] := by cases f <;> rfl

theorem tag_head (c : Ch) (R : List FLn) (n : Nat) (i j : Int) (h : ¬ (c.i0 = c.i1 ∧ c.j0 = c.j1)) (h' : c.i0 ≤ c.i1 ∧ c.j0 ≤ c.j1) : ∃ x r, tag true (keepSeg n i j) ++ chg c R = (true, x) :: r := by
  cases n with
  | succ n => exact ⟨_, _, rfl⟩
  | zero =>
    unfold chg
    by_cases hd : c.i0 = c.i1
    · obtain ⟨k, hk⟩ : ∃ k, (c.j1 - c.j0).toNat = k + 1 := ⟨(c.j1 - c.j0).toNat - 1, by omega⟩
      rw [hk, show (c.i1 - c.i0).toNat = 0 from by omega]
      exact ⟨_, _, rfl⟩
    · obtain ⟨k, hk⟩ : ∃ k, (c.i1 - c.i0).toNat = k + 1 := ⟨(c.i1 - c.i0).toNat - 1, by omega⟩
      rw [hk]
      exact ⟨_, _, rfl⟩

theorem m3_groups (h1 : TextOK s1 z1) (h2 : TextOK s2 z2) (hF : nF = (z1.length : Int) - 1) (hT : nT = (z2.length : Int) - 1) : ∀ (k : Nat) (cl : List Ch) (fst : Bool) (pi pj I J : Int) (f : Nat), cl.length ≤ k →
    COK nF nT fst pi pj cl → (fst = true → pi ≤ 0) → (0 ≤ pi ∧ pi ≤ nF ∧ 0 ≤ pj ∧ pj ≤ nT) → pi ≤ I → I ≤ nF → I - pi = J - pj → (∀ c r, cl = c :: r → I ≤ hI0 c) → (aft nF cl I J).length ≤ f →
    m3 s1 z1 s2 z2 f (aft nF cl I J) I J = groupM s1 z1 s2 z2 nF k cl := by
  intro k
  induction k with
  | zero =>
    intro cl fst pi pj I J f hl hk hfst hp hI hI' hJ hh hf
    obtain rfl : cl = [] := List.eq_nil_of_length_eq_zero (by omega)
    simp only [aft, groupM] at hf ⊢
    have := m3_hidden s1 z1 s2 z2 [] (nF - I).toNat f I J I J (by simpa [tag, keepSeg_len] using hf)
    rw [List.append_nil] at this
    rw [this, m3_nil]
  | succ k ih =>
    intro cl fst pi pj I J f hl hk hfst hp hI hI' hJ hh hf
    cases cl with
    | nil =>
      simp only [aft, groupM] at hf ⊢
      have := m3_hidden s1 z1 s2 z2 [] (nF - I).toNat f I J I J (by simpa [tag, keepSeg_len] using hf)
      rw [List.append_nil] at this
      rw [this, m3_nil]
    | cons c r =>
      obtain ⟨k1, k2, k3, k4, k5⟩ := hk
      have hIc := hh c r rfl
      have b0 : hI0 c ≤ c.i0 := by unfold hI0; omega
      have eJ : hJ0 c = c.j0 - (c.i0 - hI0 c) := rfl
      simp only [aft] at hf ⊢
      have hlen : (hI0 c - I).toNat + (big nF c r).length ≤ f := by simpa [tag, keepSeg_len] using hf
      rw [m3_hidden s1 z1 s2 z2 (big nF c r) (hI0 c - I).toNat f I J I J (by omega), show I + ((hI0 c - I).toNat : Int) = hI0 c from by omega, show J + ((hI0 c - I).toNat : Int) = hJ0 c from by omega]
      obtain ⟨x, t, hx⟩ := tag_head c (fl0 nF r c.i1 c.j1) (c.i0 - hI0 c).toNat (hI0 c) (hJ0 c) k2 ⟨k1.2.1, k1.2.2.2.2.1⟩
      have hbig : big nF c r = (true, x) :: t := hx
      obtain ⟨g, hg⟩ : ∃ g, f - (hI0 c - I).toNat = g + 1 := ⟨f - (hI0 c - I).toNat - 1, by rw [hbig] at hlen; simp only [List.length_cons] at hlen; omega⟩
      have hm := m4_group h1 h2 hF hT r c (hI0 c) (hJ0 c) [] 0 0 (big nF c r).length (by unfold hI0 at *; omega) (by omega) k1 k2 k5 (by simp [big, tag, keepSeg_len])
      rw [show tag true (keepSeg (c.i0 - hI0 c).toNat (hI0 c) (hJ0 c)) ++ chg c (fl0 nF r c.i1 c.j1) = big nF c r from rfl] at hm
      rw [hg, m3_big hbig hm, groupM]
      obtain ⟨M, hM⟩ : ∃ M, M = gcnt c r := ⟨_, rfl⟩
      have hr := m4_rest' s1 z1 s2 z2 t.length x t [] 0 0
      rw [← hbig, show t.length + 1 = (big nF c r).length from by rw [hbig]; rfl, hm] at hr
      obtain ⟨g1, g2, g3⟩ := grp' r c k1 k5
      rw [← hM] at hr g1 g2 g3 ⊢
      obtain ⟨cz, hcz⟩ : ∃ cz, cz = lastOf c (r.take M) := ⟨_, rfl⟩
      rw [← hcz] at hr g1 g2 g3 ⊢
      have b1 : cz.i1 ≤ hI1 nF cz ∧ hI1 nF cz ≤ nF ∧ hI1 nF cz ≤ cz.i1 + 3 := by unfold hI1; omega
      have eJ1 : hJ1 nF cz = cz.j1 + (hI1 nF cz - cz.i1) := rfl
      have hnext : ∀ d r', r.drop M = d :: r' → hI1 nF cz ≤ hI0 d := fun d r' h => by have := g2 d r' h; unfold hI0; omega
      have hlb : (big nF c r).length = t.length + 1 := by rw [hbig]; rfl
      have hi := ih (r.drop M) false cz.i1 cz.j1 (hI1 nF cz) (hJ1 nF cz) g (by simp only [List.length_drop, List.length_cons] at hl ⊢; omega) g1 (fun h => by cases h) (by omega) b1.1 b1.2.1 (by omega) hnext (by simp only at hr; omega)
      rw [← hi]
      simp only [hkOf, hkRuns, Int.zero_add]
      rw [show hI0 c + (hI1 nF cz - hI0 c) = hI1 nF cz from by omega, show hJ0 c + (hJ1 nF cz - hJ0 c) = hJ1 nF cz from by omega]

/-- The groups' hunks are the model's. -/
theorem group_model (h1 : TextOK s1 z1) (h2 : TextOK s2 z2) (hF : nF = (z1.length : Int) - 1) (hT : nT = (z2.length : Int) - 1) (hn : 0 ≤ nF ∧ 0 ≤ nT) (cs : List Ch) (hk : COK nF nT true 0 0 cs) :
    modelM s1 z1 s2 z2 (scr nF cs 0 0) = groupM s1 z1 s2 z2 nF cs.length cs := by
  have e : flag 3 (scr nF cs 0 0) = aft nF cs 0 0 := by
    cases cs with
    | nil => rw [scr, flag_end3]; rfl
    | cons c r =>
      obtain ⟨k1, k2, k3, k4, k5⟩ := hk
      rw [scr_cons (by omega) k4 k1.2.1 k1.2.2.2.2.1, flag_first _ _ _ _ _ _ _ _ _ _ (by omega)]
      have eI : hI0 c = 0 + (((c.i0 - 0).toNat - 3 : Nat) : Int) := by unfold hI0; omega
      have eJ : hJ0 c = 0 + (((c.i0 - 0).toNat - 3 : Nat) : Int) := by unfold hJ0; rw [eI]; omega
      simp only [aft, big, chg, fl0]
      rw [show (hI0 c - 0).toNat = (c.i0 - 0).toNat - 3 from by omega, show (c.i0 - hI0 c).toNat = min 3 (c.i0 - 0).toNat from by omega, eJ, eI]
  unfold modelM
  have el : (scr nF cs 0 0).length = (aft nF cs 0 0).length := by
    rw [← e]; simp [flag, orL, fwd_length, bwd_length]
  show m3 s1 z1 s2 z2 (scr nF cs 0 0).length (flag 3 (scr nF cs 0 0)) 0 0 = _
  rw [e]
  exact m3_groups h1 h2 hF hT cs.length cs true 0 0 0 0 _ (Nat.le_refl _) hk (fun _ => by omega) (by omega) (by omega) (by omega) rfl (fun c r _ => by unfold hI0; omega) (by omega)
end
end
end Go.Proofs.Qxb6602907a
