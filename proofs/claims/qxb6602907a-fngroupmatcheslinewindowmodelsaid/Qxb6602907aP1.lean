/- The patch law, in plain terms: the hunks of the groups patch the first text into the second. No program in sight. -/
import Derived.Test.Qxb6602907aScr2
namespace Go.Proofs.Qxb6602907a
set_option linter.unusedVariables false

/-- The bytes of the lines from i up to j. -/
def T (s : ByteArray) (z : List Int) (i j : Int) : List UInt8 := (segI s z i j).data.toList

theorem T_eq (s : ByteArray) (z : List Int) (i j : Int) : T s z i j = (s.data.toList.drop (z.getD i.toNat 0).toNat).take ((z.getD j.toNat 0).toNat - (z.getD i.toNat 0).toNat) := by
  unfold T segI seg
  simp [ByteArray.data_extract, List.extract_eq_take_drop]

theorem TextOK.rise {s : ByteArray} {z : List Int} (h : TextOK s z) : ∀ (j i : Nat), i ≤ j → j < z.length → z.getD i 0 ≤ z.getD j 0
  | 0, i, hij, hj => by
    obtain rfl : i = 0 := by omega
    exact Int.le_refl _
  | j + 1, i, hij, hj => by
    by_cases he : i = j + 1
    · subst he; exact Int.le_refl _
    · have h1 := TextOK.rise h j i (by omega) (by omega)
      have h2 := h.2.2.1 (j + 1) (by omega) hj
      simp only [Nat.add_sub_cancel] at h2
      omega

theorem T_self (s : ByteArray) (z : List Int) (i : Int) : T s z i i = [] := by rw [T_eq]; simp

theorem T_append {s : ByteArray} {z : List Int} (h : TextOK s z) {i j k : Int} (h0 : 0 ≤ i) (hij : i ≤ j) (hjk : j ≤ k) (hk : k < z.length) : T s z i j ++ T s z j k = T s z i k := by
  have a1 := h.rise j.toNat i.toNat (by omega) (by omega)
  have a2 := h.rise k.toNat j.toNat (by omega) (by omega)
  have a0 := h.rise i.toNat 0 (by omega) (by omega)
  rw [h.2.1] at a0
  rw [T_eq, T_eq, T_eq]
  obtain ⟨x, hx⟩ : ∃ x, x = (z.getD i.toNat 0).toNat := ⟨_, rfl⟩
  obtain ⟨y, hy⟩ : ∃ y, y = (z.getD j.toNat 0).toNat - x := ⟨_, rfl⟩
  obtain ⟨w, hw⟩ : ∃ w, w = (z.getD k.toNat 0).toNat - (z.getD j.toNat 0).toNat := ⟨_, rfl⟩
  rw [← hx, ← hw, show (z.getD j.toNat 0).toNat = x + y from by omega, show (z.getD k.toNat 0).toNat - x = y + w from by omega, show x + y - x = y from by omega, ← List.drop_drop, List.take_add]

theorem T_all {s : ByteArray} {z : List Int} (h : TextOK s z) : T s z 0 ((z.length : Int) - 1) = s.data.toList := by
  rw [T_eq]
  have h1 := h.2.1
  have h2 := h.2.2.2
  have e : ((z.length : Int) - 1).toNat = z.length - 1 := by omega
  rw [e, h2]
  simp only [Int.toNat_zero]
  rw [h1]
  have : s.data.toList.length = s.size := rfl
  simp only [Int.toNat_zero, List.drop_zero, Int.toNat_natCast, Nat.sub_zero]
  rw [← this, List.take_length]

theorem T_last {s : ByteArray} {z : List Int} (h : TextOK s z) (i : Int) : T s z i ((z.length : Int) - 1) = s.data.toList.drop (z.getD i.toNat 0).toNat := by
  rw [T_eq]
  have h2 := h.2.2.2
  have e : ((z.length : Int) - 1).toNat = z.length - 1 := by omega
  rw [e, h2]
  have : s.data.toList.length = s.size := rfl
  rw [List.take_of_length_le]
  simp only [List.length_drop, Int.toNat_natCast, this]
  exact Nat.le_refl _

def olds (rs : List (Int × ByteArray)) : List UInt8 := rs.flatMap fun r => if r.1 = 43 then [] else r.2.data.toList
def news (rs : List (Int × ByteArray)) : List UInt8 := rs.flatMap fun r => if r.1 = 45 then [] else r.2.data.toList
def OpsOK (rs : List (Int × ByteArray)) : Prop := ∀ r ∈ rs, r.1 = 32 ∨ r.1 = 45 ∨ r.1 = 43

theorem data_nil {s : ByteArray} (h : s.size = 0) : s.data.toList = [] := List.eq_nil_of_length_eq_zero h

theorem olds_add (rs : List (Int × ByteArray)) (op : Int) (s : ByteArray) : olds (addRun rs op s) = olds rs ++ if op = 43 then [] else s.data.toList := by
  unfold addRun
  split
  · rename_i h; rw [data_nil h]; simp
  · simp [olds]
theorem news_add (rs : List (Int × ByteArray)) (op : Int) (s : ByteArray) : news (addRun rs op s) = news rs ++ if op = 45 then [] else s.data.toList := by
  unfold addRun
  split
  · rename_i h; rw [data_nil h]; simp
  · simp [news]
theorem ops_add {rs : List (Int × ByteArray)} {op : Int} (s : ByteArray) (h : OpsOK rs) (ho : op = 32 ∨ op = 45 ∨ op = 43) : OpsOK (addRun rs op s) := by
  unfold addRun
  split
  · exact h
  · intro r hr
    simp only [List.mem_append, List.mem_singleton] at hr
    rcases hr with hr | rfl
    · exact h r hr
    · exact ho

/-- The hunks patch, from the place (cu, tcu) on, behind what has been written. -/
def Patches (s1 : ByteArray) (z1 : List Int) (s2 : ByteArray) (z2 : List Int) (nF nT : Int) : Int → Int → List UInt8 → List Hk → Prop
  | cu, tcu, out, [] => (0 ≤ cu ∧ cu ≤ nF) ∧ nT - tcu = nF - cu ∧ out ++ T s1 z1 cu nF = s2.data.toList
  | cu, tcu, out, h :: r =>
    ∃ fs ts, h.fr = bump h.fc fs ∧ h.tw = bump h.tc ts ∧ (0 ≤ cu ∧ cu ≤ fs ∧ fs ≤ nF ∧ 0 ≤ h.fc ∧ h.fc ≤ nF - fs) ∧ (0 ≤ tcu ∧ tcu ≤ ts ∧ ts ≤ nT ∧ 0 ≤ h.tc ∧ h.tc ≤ nT - ts) ∧ ts - tcu = fs - cu ∧
      OpsOK h.runs ∧ olds h.runs = T s1 z1 fs (fs + h.fc) ∧ news h.runs = T s2 z2 ts (ts + h.tc) ∧ Patches s1 z1 s2 z2 nF nT (fs + h.fc) (ts + h.tc) (out ++ T s1 z1 cu fs ++ news h.runs) r

section
variable {s1 : ByteArray} {z1 : List Int} {s2 : ByteArray} {z2 : List Int} {nF nT : Int}

/-- Unchanged lines in a row read the same. -/
theorem agree_keep (h1 : TextOK s1 z1) (h2 : TextOK s2 z2) (hF : nF = (z1.length : Int) - 1) (hT : nT = (z2.length : Int) - 1) : ∀ (n : Nat) (i j : Int), 0 ≤ i → 0 ≤ j → i + n ≤ nF → j + n ≤ nT →
    Agree s1 z1 s2 z2 (keepSeg n i j) → ∀ (a b : Int), 0 ≤ a → a ≤ b → b ≤ n → T s1 z1 (i + a) (i + b) = T s2 z2 (j + a) (j + b) := by
  intro n
  induction n with
  | zero =>
    intro i j hi hj _ _ _ a b ha hab hb
    obtain rfl : a = 0 := by omega
    obtain rfl : b = 0 := by omega
    rw [T_self, T_self]
  | succ n ih =>
    intro i j hi hj hi' hj' hA a b ha hab hb
    have hA' : Agree s1 z1 s2 z2 (keepSeg n (i + 1) (j + 1)) := fun x hx => hA x (by simp only [keepSeg, List.mem_cons]; exact .inr hx)
    have h0 : T s1 z1 i (i + 1) = T s2 z2 j (j + 1) := by
      have := hA (32, i, j) (by simp [keepSeg]) rfl
      unfold T
      simp only at this
      rw [this]
    by_cases ha0 : a = 0
    · subst ha0
      by_cases hb0 : b = 0
      · subst hb0; rw [T_self, T_self]
      · have hI := ih (i + 1) (j + 1) (by omega) (by omega) (by omega) (by omega) hA' 0 (b - 1) (by omega) (by omega) (by omega)
        rw [show i + 1 + 0 = i + 1 from by omega, show i + 1 + (b - 1) = i + b from by omega, show j + 1 + 0 = j + 1 from by omega, show j + 1 + (b - 1) = j + b from by omega] at hI
        rw [show i + 0 = i from by omega, show j + 0 = j from by omega, ← T_append h1 (by omega) (show i ≤ i + 1 by omega) (show i + 1 ≤ i + b by omega) (by omega), ← T_append h2 (by omega) (show j ≤ j + 1 by omega) (show j + 1 ≤ j + b by omega) (by omega), h0, hI]
    · have hI := ih (i + 1) (j + 1) (by omega) (by omega) (by omega) (by omega) hA' (a - 1) (b - 1) (by omega) (by omega) (by omega)
      rw [show i + 1 + (a - 1) = i + a from by omega, show i + 1 + (b - 1) = i + b from by omega, show j + 1 + (a - 1) = j + a from by omega, show j + 1 + (b - 1) = j + b from by omega] at hI
      exact hI

/-- The lines between a group's changes. -/
def GCh (s1 : ByteArray) (z1 : List Int) (s2 : ByteArray) (z2 : List Int) (nF nT : Int) : Int → Int → List Ch → Prop
  | _, _, [] => True
  | a, b, c :: r => a ≤ c.i0 ∧ b ≤ c.j0 ∧ T s1 z1 a c.i0 = T s2 z2 b c.j0 ∧ (0 ≤ c.i0 ∧ c.i0 ≤ c.i1 ∧ c.i1 ≤ nF ∧ 0 ≤ c.j0 ∧ c.j0 ≤ c.j1 ∧ c.j1 ≤ nT) ∧ GCh s1 z1 s2 z2 nF nT c.i1 c.j1 r

def endI (a : Int) (g : List Ch) : Int := (g.getLast?.map (·.i1)).getD a
def endJ (b : Int) (g : List Ch) : Int := (g.getLast?.map (·.j1)).getD b
theorem endI_cons (a : Int) (c : Ch) (r : List Ch) : endI a (c :: r) = endI c.i1 r := by
  cases r with
  | nil => rfl
  | cons d r => simp [endI, List.getLast?_cons]
theorem endJ_cons (a : Int) (c : Ch) (r : List Ch) : endJ a (c :: r) = endJ c.j1 r := by
  cases r with
  | nil => rfl
  | cons d r => simp [endJ, List.getLast?_cons]

theorem fold_texts (h1 : TextOK s1 z1) (h2 : TextOK s2 z2) (hF : nF = (z1.length : Int) - 1) (hT : nT = (z2.length : Int) - 1) : ∀ (g : List Ch) (rs : List (Int × ByteArray)) (a b I J : Int),
    GCh s1 z1 s2 z2 nF nT a b g → 0 ≤ I → I ≤ a → 0 ≤ J → J ≤ b → OpsOK rs → olds rs = T s1 z1 I a → news rs = T s2 z2 J b →
    (g.foldl (stepRuns s1 z1 s2 z2) (rs, a)).2 = endI a g ∧ OpsOK (g.foldl (stepRuns s1 z1 s2 z2) (rs, a)).1 ∧ olds (g.foldl (stepRuns s1 z1 s2 z2) (rs, a)).1 = T s1 z1 I (endI a g) ∧ news (g.foldl (stepRuns s1 z1 s2 z2) (rs, a)).1 = T s2 z2 J (endJ b g)
  | [], rs, a, b, I, J, _, _, _, _, _, ho, hO, hN => ⟨rfl, ho, hO, hN⟩
  | c :: r, rs, a, b, I, J, ⟨q1, q2, q3, q4, q5⟩, hI, hIa, hJ, hJb, ho, hO, hN => by
    rw [endI_cons, endJ_cons]
    simp only [List.foldl_cons]
    refine fold_texts h1 h2 hF hT r _ c.i1 c.j1 I J q5 hI (by omega) hJ (by omega) ?_ ?_ ?_
    · exact ops_add _ (ops_add _ (ops_add _ ho (.inl rfl)) (.inr (.inl rfl))) (.inr (.inr rfl))
    · simp only [olds_add, hO]
      simp only [if_true, List.append_nil]
      rw [if_neg (by decide), if_neg (by decide)]
      show T s1 z1 I a ++ T s1 z1 a c.i0 ++ T s1 z1 c.i0 c.i1 = _
      rw [T_append h1 hI hIa q1 (by omega), T_append h1 hI (by omega) q4.2.1 (by omega)]
    · simp only [news_add, hN]
      simp only [if_true, List.append_nil]
      rw [if_neg (by decide), if_neg (by decide)]
      show T s2 z2 J b ++ T s1 z1 a c.i0 ++ T s2 z2 c.j0 c.j1 = _
      rw [q3, T_append h2 hJ hJb q2 (by omega), T_append h2 hJ (by omega) q4.2.2.2.2.1 (by omega)]

theorem lastOf_cons (c d : Ch) (l : List Ch) : lastOf c (d :: l) = lastOf d l := by
  unfold lastOf
  cases l with
  | nil => rfl
  | cons e l => simp [List.getLast?_cons]

theorem endI_lastOf (c : Ch) : ∀ (l : List Ch), endI c.i1 l = (lastOf c l).i1 ∧ endJ c.j1 l = (lastOf c l).j1
  | [] => ⟨rfl, rfl⟩
  | d :: l => by rw [endI_cons, endJ_cons, lastOf_cons]; exact endI_lastOf d l

theorem agree_left {A B : List (Int × Int × Int)} (h : Agree s1 z1 s2 z2 (A ++ B)) : Agree s1 z1 s2 z2 A := fun x hx => h x (List.mem_append_left _ hx)
theorem agree_right {A B : List (Int × Int × Int)} (h : Agree s1 z1 s2 z2 (A ++ B)) : Agree s1 z1 s2 z2 B := fun x hx => h x (List.mem_append_right _ hx)

/-- What the group that begins with c is, and what stands behind it. -/
theorem grp (h1 : TextOK s1 z1) (h2 : TextOK s2 z2) (hF : nF = (z1.length : Int) - 1) (hT : nT = (z2.length : Int) - 1) : ∀ (r : List Ch) (c : Ch),
    (0 ≤ c.i0 ∧ c.i0 ≤ c.i1 ∧ c.i1 ≤ nF ∧ 0 ≤ c.j0 ∧ c.j0 ≤ c.j1 ∧ c.j1 ≤ nT) → COK nF nT false c.i1 c.j1 r → Agree s1 z1 s2 z2 (scr nF r c.i1 c.j1) →
    GCh s1 z1 s2 z2 nF nT c.i1 c.j1 (r.take (gcnt c r)) ∧ COK nF nT false (lastOf c (r.take (gcnt c r))).i1 (lastOf c (r.take (gcnt c r))).j1 (r.drop (gcnt c r)) ∧
    Agree s1 z1 s2 z2 (scr nF (r.drop (gcnt c r)) (lastOf c (r.take (gcnt c r))).i1 (lastOf c (r.take (gcnt c r))).j1) ∧
    (∀ d r', r.drop (gcnt c r) = d :: r' → 6 < d.i0 - (lastOf c (r.take (gcnt c r))).i1) ∧
    (c.i1 ≤ (lastOf c (r.take (gcnt c r))).i1 ∧ (lastOf c (r.take (gcnt c r))).i1 ≤ nF ∧ c.j1 ≤ (lastOf c (r.take (gcnt c r))).j1 ∧ (lastOf c (r.take (gcnt c r))).j1 ≤ nT)
  | [], c, hb, hk, hA => by
    simp only [gcnt, List.take_nil, List.drop_nil, lastOf, List.getLast?_nil, Option.getD_none]
    exact ⟨trivial, hk, hA, fun d r' h => by (cases h), by omega⟩
  | d :: r, c, hb, hk, hA => by
    by_cases hg : d.i0 - c.i1 ≤ 6
    · have e : gcnt c (d :: r) = gcnt d r + 1 := by rw [gcnt, if_pos hg]
      obtain ⟨k1, k2, k3, k4, k5⟩ := hk
      have k3 := k3 rfl
      rw [scr_cons (by omega) k4 k1.2.1 k1.2.2.2.2.1] at hA
      have hk' := agree_keep h1 h2 hF hT (d.i0 - c.i1).toNat c.i1 c.j1 (by omega) (by omega) (by omega) (by omega) (agree_left hA) 0 (d.i0 - c.i1) (by omega) (by omega) (by omega)
      rw [show c.i1 + 0 = c.i1 from by omega, show c.j1 + 0 = c.j1 from by omega, show c.i1 + (d.i0 - c.i1) = d.i0 from by omega, show c.j1 + (d.i0 - c.i1) = d.j0 from by omega] at hk'
      obtain ⟨m1, m2, m3, m4, m5⟩ := grp h1 h2 hF hT r d k1 k5 (agree_right (agree_right (agree_right hA)))
      rw [e]
      simp only [List.take_succ_cons, List.drop_succ_cons, lastOf_cons]
      exact ⟨⟨by omega, by omega, hk', k1, m1⟩, m2, m3, m4, by omega⟩
    · have e : gcnt c (d :: r) = 0 := by rw [gcnt, if_neg hg]
      rw [e]
      simp only [List.take_zero, List.drop_zero, lastOf, List.getLast?_nil, Option.getD_none]
      exact ⟨trivial, hk, hA, fun d' r' h => by cases h; omega, by omega⟩

theorem gap_agree (h1 : TextOK s1 z1) (h2 : TextOK s2 z2) (hF : nF = (z1.length : Int) - 1) (hT : nT = (z2.length : Int) - 1) {cl : List Ch} {fst : Bool} {pi pj : Int} (hk : COK nF nT fst pi pj cl) (hf : fst = true → pi ≤ 0)
    (hA : Agree s1 z1 s2 z2 (scr nF cl pi pj)) (hp : 0 ≤ pi ∧ pi ≤ nF ∧ 0 ≤ pj ∧ pj ≤ nT) (a b : Int) (ha : pi ≤ a) (hab : a ≤ b) (hb : b ≤ nF) (hb' : ∀ c r, cl = c :: r → b ≤ c.i0) :
    T s1 z1 a b = T s2 z2 (pj + (a - pi)) (pj + (b - pi)) := by
  cases cl with
  | nil =>
    have hk' : nF - pi = nT - pj := hk
    have := agree_keep h1 h2 hF hT (nF - pi).toNat pi pj (by omega) (by omega) (by omega) (by omega) hA (a - pi) (b - pi) (by omega) (by omega) (by omega)
    rw [show pi + (a - pi) = a from by omega, show pi + (b - pi) = b from by omega] at this
    exact this
  | cons c r =>
    obtain ⟨k1, k2, k3, k4, k5⟩ := hk
    have hbc := hb' c r rfl
    rw [scr_cons (by omega) k4 k1.2.1 k1.2.2.2.2.1] at hA
    have := agree_keep h1 h2 hF hT (c.i0 - pi).toNat pi pj (by omega) (by omega) (by omega) (by omega) (agree_left hA) (a - pi) (b - pi) (by omega) (by omega) (by omega)
    rw [show pi + (a - pi) = a from by omega, show pi + (b - pi) = b from by omega] at this
    exact this

set_option maxHeartbeats 2000000 in
theorem patches_groupM (h1 : TextOK s1 z1) (h2 : TextOK s2 z2) (hF : nF = (z1.length : Int) - 1) (hT : nT = (z2.length : Int) - 1) : ∀ (f : Nat) (cl : List Ch) (fst : Bool) (pi pj cu tcu : Int), cl.length ≤ f →
    COK nF nT fst pi pj cl → (fst = true → pi ≤ 0) → Agree s1 z1 s2 z2 (scr nF cl pi pj) → (0 ≤ pi ∧ pi ≤ nF ∧ 0 ≤ pj ∧ pj ≤ nT) → pi ≤ cu → cu ≤ nF → cu - pi = tcu - pj → (∀ c r, cl = c :: r → cu ≤ hI0 c) →
    Patches s1 z1 s2 z2 nF nT cu tcu (T s2 z2 0 tcu) (groupM s1 z1 s2 z2 nF f cl) := by
  have tail : ∀ (f : Nat) (fst : Bool) (pi pj cu tcu : Int), COK nF nT fst pi pj [] → (fst = true → pi ≤ 0) → Agree s1 z1 s2 z2 (scr nF [] pi pj) → (0 ≤ pi ∧ pi ≤ nF ∧ 0 ≤ pj ∧ pj ≤ nT) → pi ≤ cu → cu ≤ nF → cu - pi = tcu - pj →
      Patches s1 z1 s2 z2 nF nT cu tcu (T s2 z2 0 tcu) [] := by
    intro f fst pi pj cu tcu hk hf hA hp hpc hc hd
    have hk' : nF - pi = nT - pj := hk
    refine ⟨by omega, by omega, ?_⟩
    rw [gap_agree h1 h2 hF hT (cl := []) hk hf hA hp cu nF hpc (by omega) (by omega) (fun c r h => by cases h)]
    rw [show pj + (cu - pi) = tcu from by omega, show pj + (nF - pi) = nT from by omega, T_append h2 (by omega) (by omega) (by omega) (by omega), hT, T_all h2]
  intro f
  induction f with
  | zero =>
    intro cl fst pi pj cu tcu hl hk hf hA hp hpc hc hd _
    obtain rfl : cl = [] := List.eq_nil_of_length_eq_zero (by omega)
    exact tail 0 fst pi pj cu tcu hk hf hA hp hpc hc hd
  | succ f ih =>
    intro cl fst pi pj cu tcu hl hk hf hA hp hpc hc hd hci
    cases cl with
    | nil => exact tail (f + 1) fst pi pj cu tcu hk hf hA hp hpc hc hd
    | cons c r =>
      have hkk := hk
      obtain ⟨k1, k2, k3, k4, k5⟩ := hkk
      have hcc := hci c r rfl
      have hcI : hI0 c ≤ c.i0 := by unfold hI0; omega
      have hAA := hA
      rw [scr_cons (by omega) k4 k1.2.1 k1.2.2.2.2.1] at hAA
      obtain ⟨m1, m2, m3, m4, m5⟩ := grp h1 h2 hF hT r c k1 k5 (agree_right (agree_right (agree_right hAA)))
      rw [groupM]
      obtain ⟨M, hM⟩ : ∃ M, M = gcnt c r := ⟨_, rfl⟩
      rw [← hM] at m1 m2 m3 m4 m5 ⊢
      obtain ⟨cz, hcz⟩ : ∃ cz, cz = lastOf c (r.take M) := ⟨_, rfl⟩
      rw [← hcz] at m2 m3 m4 m5 ⊢
      obtain ⟨I0, hI⟩ : ∃ I, I = hI0 c := ⟨_, rfl⟩
      obtain ⟨I1, hI1'⟩ : ∃ I, I = hI1 nF cz := ⟨_, rfl⟩
      have b0 : 0 ≤ I0 ∧ I0 ≤ c.i0 := by rw [hI]; unfold hI0; omega
      have b1 : cz.i1 ≤ I1 ∧ I1 ≤ nF ∧ I1 ≤ cz.i1 + 3 := by rw [hI1']; unfold hI1; omega
      have g0 : T s1 z1 I0 c.i0 = T s2 z2 (c.j0 - (c.i0 - I0)) c.j0 := by
        have := gap_agree h1 h2 hF hT hk hf hA hp I0 c.i0 (by omega) b0.2 (by omega) (fun c' r' h => by cases h; exact Int.le_refl _)
        rw [show pj + (I0 - pi) = c.j0 - (c.i0 - I0) from by omega, show pj + (c.i0 - pi) = c.j0 from by omega] at this
        exact this
      have hnext : ∀ d r', r.drop M = d :: r' → I1 ≤ hI0 d ∧ I1 ≤ d.i0 := fun d r' h => by have := m4 d r' h; unfold hI0; omega
      have g1 : T s1 z1 cz.i1 I1 = T s2 z2 cz.j1 (cz.j1 + (I1 - cz.i1)) := by
        have := gap_agree h1 h2 hF hT m2 (fun h => by cases h) m3 (by omega) cz.i1 I1 (Int.le_refl _) b1.1 b1.2.1 (fun d r' h => (hnext d r' h).2)
        rw [show cz.j1 + (cz.i1 - cz.i1) = cz.j1 from by omega] at this
        exact this
      have g2 : T s1 z1 cu I0 = T s2 z2 tcu (c.j0 - (c.i0 - I0)) := by
        have := gap_agree h1 h2 hF hT hk hf hA hp cu I0 (by omega) (by omega) (by omega) (fun c' r' h => by cases h; exact b0.2)
        rw [show pj + (I0 - pi) = c.j0 - (c.i0 - I0) from by omega, show pj + (cu - pi) = tcu from by omega] at this
        exact this
      have hJle : cz.j1 + (I1 - cz.i1) ≤ nT := by
        cases hd' : r.drop M with
        | nil => rw [hd'] at m2; have m2' : nF - cz.i1 = nT - cz.j1 := m2; omega
        | cons d r' =>
          rw [hd'] at m2
          have := (hnext d r' hd').2
          obtain ⟨x1, x2, x3, x4, x5⟩ := m2
          omega
      -- the runs
      obtain ⟨f1, f2, f3, f4⟩ := fold_texts h1 h2 hF hT (c :: r.take M) [] I0 (c.j0 - (c.i0 - I0)) I0 (c.j0 - (c.i0 - I0)) ⟨b0.2, by omega, g0, k1, m1⟩ b0.1 (Int.le_refl _) (by omega) (Int.le_refl _) (fun r hr => by cases hr) (by rw [T_self]; rfl) (by rw [T_self]; rfl)
      obtain ⟨e1, e2⟩ := endI_lastOf c (r.take M)
      rw [endI_cons, e1, ← hcz] at f1 f3
      rw [endJ_cons, e2, ← hcz] at f4
      have hruns : (hkOf s1 z1 s2 z2 nF c cz (c :: r.take M)).runs = addRun ((c :: r.take M).foldl (stepRuns s1 z1 s2 z2) ([], I0)).1 32 (segI s1 z1 cz.i1 I1) := by
        simp only [hkOf, hkRuns, ← hI, ← hI1', f1]
      have hO : olds (hkOf s1 z1 s2 z2 nF c cz (c :: r.take M)).runs = T s1 z1 I0 I1 := by
        rw [hruns, olds_add, f3, if_neg (by decide)]
        exact T_append h1 b0.1 (by omega) b1.1 (by omega)
      have hN : news (hkOf s1 z1 s2 z2 nF c cz (c :: r.take M)).runs = T s2 z2 (c.j0 - (c.i0 - I0)) (cz.j1 + (I1 - cz.i1)) := by
        rw [hruns, news_add, f4, if_neg (by decide)]
        show _ ++ T s1 z1 cz.i1 I1 = _
        rw [g1]
        exact T_append h2 (by omega) (by omega) (by omega) (by omega)
      have hfc : (hkOf s1 z1 s2 z2 nF c cz (c :: r.take M)).fc = I1 - I0 := by simp only [hkOf, ← hI, ← hI1']
      have htc : (hkOf s1 z1 s2 z2 nF c cz (c :: r.take M)).tc = cz.j1 + (I1 - cz.i1) - (c.j0 - (c.i0 - I0)) := by simp only [hkOf, hJ0, hJ1, ← hI, ← hI1']
      refine ⟨I0, c.j0 - (c.i0 - I0), ?_, ?_, ?_, ?_, by omega, ?_, ?_, ?_, ?_⟩
      · simp only [hkOf, ← hI, ← hI1']
      · simp only [hkOf, hJ0, hJ1, ← hI, ← hI1']
      · rw [hfc]; omega
      · rw [htc]; omega
      · rw [hruns]; exact ops_add _ f2 (.inl rfl)
      · rw [hO, hfc]; congr 1; omega
      · rw [hN, htc]; congr 1; omega
      · rw [hfc, htc, hN, g2, T_append h2 (by omega) (by omega) (by omega) (by omega), T_append h2 (by omega) (by omega) (by omega) (by omega), show I0 + (I1 - I0) = I1 from by omega, show c.j0 - (c.i0 - I0) + (cz.j1 + (I1 - cz.i1) - (c.j0 - (c.i0 - I0))) = cz.j1 + (I1 - cz.i1) from by omega]
        refine ih (r.drop M) false cz.i1 cz.j1 I1 _ ?_ m2 (fun h => by cases h) m3 (by omega) b1.1 b1.2.1 (by omega) (fun d r' h => (hnext d r' h).1)
        simp only [List.length_drop, List.length_cons] at hl ⊢
        omega
end
end Go.Proofs.Qxb6602907a
