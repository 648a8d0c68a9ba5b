import Derived.Test.Qxb6602907aW4
namespace Go.Proofs.Qxb6602907a
open Go.RowKit
set_option linter.unusedVariables false

theorem I32At.below {w W : World} {b o B : Nat} {z : List Int} (h : I32At w b o z) (hb : Below B w W) (hlt : b < B) : I32At W b o z :=
  fun i hi => (hb.cell (p := ⟨b, o + i, none⟩) hlt).trans (h i hi)

theorem I32At.lt {w : World} {b o : Nat} {z : List Int} (h : I32At w b o z) (hz : 0 < z.length) : b < w.heap.size := World.block_lt_of_cell? w _ (h 0 hz)

theorem ChIs.below {w W : World} {b p B : Nat} {c : Ch} (h : ChIs w b p c) (hb : Below B w W) (hlt : b < B) : ChIs W b p c :=
  ⟨(hb.cell (p := ⟨b, p, none⟩) hlt).trans h.1, (hb.cell (p := ⟨b, p + 1, none⟩) hlt).trans h.2.1, (hb.cell (p := ⟨b, p + 2, none⟩) hlt).trans h.2.2.1, (hb.cell (p := ⟨b, p + 3, none⟩) hlt).trans h.2.2.2⟩

/-- Starts rise. -/
theorem TextOK.mono {s : ByteArray} {z : List Int} (h : TextOK s z) : ∀ (j i : Nat), i ≤ j → j < z.length → z.getD i 0 ≤ z.getD j 0
  | 0, i, hij, hj => by
    obtain rfl : i = 0 := by omega
    exact Int.le_refl _
  | j + 1, i, hij, hj => by
    by_cases he : i = j + 1
    · subst he; exact Int.le_refl _
    · have h1 := TextOK.mono h j i (by omega) (by omega)
      have h2 := h.2.2.1 (j + 1) (by omega) hj
      simp only [Nat.add_sub_cancel] at h2
      omega

theorem TextOK.bd {s : ByteArray} {z : List Int} (h : TextOK s z) (i : Nat) (hi : i < z.length) : 0 ≤ z.getD i 0 ∧ z.getD i 0 ≤ s.size := by
  have h1 := h.mono i 0 (by omega) hi
  have h2 := h.mono (z.length - 1) i (by omega) (by omega)
  rw [h.2.1] at h1
  rw [h.2.2.2] at h2
  exact ⟨h1, h2⟩

theorem lines19' (s : ByteArray) (b o n c : Nat) (z : List Int) (i j : Int) (w : World) (hI : I32At w b o z) (hz : z.length = n) (hT : TextOK s z) (hn : n ≤ 1048576) (hs : s.size ≤ 1048576)
    (h0 : 0 ≤ i) (hij : i ≤ j) (hj : j < n) :
    Calls Try.prog 19 #[.agg #[.string s, .slice (some ⟨b, o, none⟩) n c], .int .i64 i, .int .i64 j] w fun e w' =>
      e = .returned (.string (segI s z i j)) ∧ Below w.heap.size w w' := by
  obtain ⟨i', rfl⟩ : ∃ i' : Nat, i = (i' : Int) := ⟨i.toNat, by omega⟩
  obtain ⟨j', rfl⟩ : ∃ j' : Nat, j = (j' : Int) := ⟨j.toNat, by omega⟩
  have h1 := hT.bd i' (by omega)
  have h2 := hT.bd j' (by omega)
  have h3 := hT.mono j' i' (by omega) (by omega)
  exact lines19 s b o n c i' j' (z.getD i' 0) (z.getD j' 0) w (by omega) (by omega) hn (hI i' (by omega)) (hI j' (by omega)) h1.1 h3 h2.2 hs

def hkCells (h : Hk) (rv : Value) : List Value := [.int .i64 h.fr, .int .i64 h.tw, .int .i64 h.fc, .int .i64 h.tc, rv]
def hksCells (hs : List Hk) (rvs : List Value) : List Value := (hs.zip rvs).flatMap fun p => hkCells p.1 p.2
/-- The value v is a slice that owns the hunks hs. -/
def HunksIn (w : World) (base : Nat) (v : Value) (hs : List Hk) : Prop :=
  ∃ rvs : List Value, rvs.length = hs.length ∧ w.ownsRow base 36 5 v hs.length (hksCells hs rvs) ∧ ∀ (i : Nat) (h : Hk) (rv : Value), hs[i]? = some h → rvs[i]? = some rv → RunsIn w base rv h.runs

theorem HunksIn.nil (w : World) (base : Nat) : HunksIn w base (.slice none 0 0) [] := ⟨[], rfl, World.ownsRow_nil _ _ _ _, fun i h rv hh => by simp at hh⟩

/-- The runs slice v owns rs, at the blocks from base on; the hunk variable at block g holds the four numbers and v. -/
def HVar (w : World) (g : Nat) (fr tw fc tc : Int) (rv : Value) : Prop :=
  w.cell? ⟨g, 0, none⟩ = some (.int .i64 fr) ∧ w.cell? ⟨g, 1, none⟩ = some (.int .i64 tw) ∧ w.cell? ⟨g, 2, none⟩ = some (.int .i64 fc) ∧ w.cell? ⟨g, 3, none⟩ = some (.int .i64 tc) ∧
  w.cell? ⟨g, 4, none⟩ = some rv ∧ ∀ j, w.frozen? ⟨g, j, none⟩ = false


theorem HVar.kept {w w' : World} {g : Nat} {fr tw fc tc : Int} {rv : Value} (h : HVar w g fr tw fc tc rv) (hb : w'.heap[g]? = w.heap[g]?) : HVar w' g fr tw fc tc rv := by
  have hc : ∀ j, w'.cell? ⟨g, j, none⟩ = w.cell? ⟨g, j, none⟩ := fun j => World.cell?_of_block (w := w) (a := ⟨g, j, none⟩) hb
  have hf : ∀ j, w'.frozen? ⟨g, j, none⟩ = w.frozen? ⟨g, j, none⟩ := fun j => World.frozen?_of_block (w := w) (a := ⟨g, j, none⟩) hb
  obtain ⟨a0, a1, a2, a3, a4, a5⟩ := h
  exact ⟨(hc 0).trans a0, (hc 1).trans a1, (hc 2).trans a2, (hc 3).trans a3, (hc 4).trans a4, fun j => (hf j).trans (a5 j)⟩

theorem HVar.set4 {w : World} {g : Nat} {fr tw fc tc : Int} {rv : Value} (h : HVar w g fr tw fc tc rv) (rv' : Value) : HVar (w.setCell ⟨g, 4, none⟩ rv') g fr tw fc tc rv' := by
  obtain ⟨a0, a1, a2, a3, a4, a5⟩ := h
  refine ⟨?_, ?_, ?_, ?_, ?_, fun j => ?_⟩
  · rw [World.cell?_setCell_other _ _ _ _ (by simp)]; exact a0
  · rw [World.cell?_setCell_other _ _ _ _ (by simp)]; exact a1
  · rw [World.cell?_setCell_other _ _ _ _ (by simp)]; exact a2
  · rw [World.cell?_setCell_other _ _ _ _ (by simp)]; exact a3
  · exact World.cell?_setCell_same _ _ _ a4
  · simpa using a5 j

theorem owns_ne {w : World} {g : Nat} {e : TypeId} {size : Nat} {v : Value} {n : Nat} {xs : List Value} (h : w.ownsRow (g + 1) e size v n xs) : some g ≠ v.ownBlock := fun e => by
  have := (h.lt g e.symm).1
  omega

theorem owns_shape {w : World} {base : Nat} {e : TypeId} {size : Nat} {v : Value} {n : Nat} {xs : List Value} (h : w.ownsRow base e size v n xs) : ∃ a l c, v = .slice a l c := by
  rcases h.2 with ⟨rfl, _⟩ | ⟨g, cap, cur, rfl, _⟩ <;> exact ⟨_, _, _, rfl⟩

theorem chis_of_block {w : World} {k : Nat} {c : Ch} (h : w.heap[k]? = some (.cells #[.int .i64 c.i0, .int .i64 c.i1, .int .i64 c.j0, .int .i64 c.j1] 44 (0, 0))) : ChIs w k 0 c := by
  refine ⟨?_, ?_, ?_, ?_⟩ <;> simp [World.cell?, h]

/-- What 'h.Runs = appendRun(h.Runs, op, t.lines(a, b))' leaves. -/
theorem runs_step {wf wa w1 w2 : World} {g bc : Nat} {fr tw fc tc : Int} {rv rv1 : Value} {rs rs1 : List (Int × ByteArray)} {c : Ch}
    (hv : HVar wa g fr tw fc tc rv) (hr : RunsIn wa (g + 1) rv rs) (hblk : wa.heap[bc]? = some (.cells #[.int .i64 c.i0, .int .i64 c.i1, .int .i64 c.j0, .int .i64 c.j1] 44 (0, 0)))
    (hbf : Below g wf wa) (hga : g < wa.heap.size) (hgb : g < bc) (hb1 : Below wa.heap.size wa w1) (hR2 : RunsIn w2 (g + 1) rv1 rs1) (hg2 : w1.grownBy w2 rv.ownBlock) :
    HVar (w2.setCell ⟨g, 4, none⟩ rv1) g fr tw fc tc rv1 ∧ RunsIn (w2.setCell ⟨g, 4, none⟩ rv1) (g + 1) rv1 rs1 ∧
    (w2.setCell ⟨g, 4, none⟩ rv1).heap[bc]? = some (.cells #[.int .i64 c.i0, .int .i64 c.i1, .int .i64 c.j0, .int .i64 c.j1] 44 (0, 0)) ∧
    Below g wf (w2.setCell ⟨g, 4, none⟩ rv1) ∧ g < (w2.setCell ⟨g, 4, none⟩ rv1).heap.size := by
  have hbc : bc < wa.heap.size := (Array.getElem?_eq_some_iff.1 hblk).1
  have hz1 := hb1.size
  have hz2 := hg2.size
  have hrlt : ∀ k, rv.ownBlock = some k → k < wa.heap.size := fun k hk => (World.ownsRow.lt hr k hk).2
  have hne : some g ≠ rv.ownBlock := owns_ne hr
  have hnb : some bc ≠ rv.ownBlock := by
    intro e
    rcases hr.2 with ⟨rfl, _⟩ | ⟨k, cap, cur, rfl, _, hk, _⟩
    · simp [Value.ownBlock] at e
    · simp [Value.ownBlock] at e
      subst e
      rw [hblk] at hk
      simp at hk
  have k1 : w2.heap[g]? = wa.heap[g]? := (hg2.block g (by omega) hne).trans (hb1.block g hga)
  have k2 : w2.heap[bc]? = wa.heap[bc]? := (hg2.block bc (by omega) hnb).trans (hb1.block bc hbc)
  refine ⟨(hv.kept k1).set4 _, ownsRow_setCell_below hR2 (by simp) _, ?_, ?_, ?_⟩
  · rw [Below.heap_setCell _ _ _ _ (by simp; omega), k2]; exact hblk
  · refine Below.setCell (p := ⟨g, 4, none⟩) ?_ (Nat.le_refl _) _
    refine hbf.trans ⟨hg2.os.trans hb1.os, hg2.tape.trans hb1.tape, hg2.output.trans hb1.output, by omega, fun k hk => ?_⟩
    refine (hg2.block k (by omega) (fun e => ?_)).trans (hb1.block k (by omega))
    have := (World.ownsRow.lt hr k e.symm).1
    omega
  · simp only [World.setCell, Array.size_modify]; omega

theorem extract_size_le (s : ByteArray) (i j : Nat) : (s.extract i j).size ≤ s.size := by
  rw [ByteArray.size_extract]; omega
theorem segI_size (s : ByteArray) (z : List Int) (i j : Int) : (segI s z i j).size ≤ s.size := extract_size_le _ _ _
theorem addRun_length (rs : List (Int × ByteArray)) (op : Int) (s : ByteArray) : (addRun rs op s).length ≤ rs.length + 1 := by
  unfold addRun; split <;> simp

/-- Where the group's text stands behind q of its changes. -/
theorem fold_end (s1 : ByteArray) (z1 : List Int) (s2 : ByteArray) (z2 : List Int) (cl : List Ch) (a : List (Int × ByteArray) × Int) (q : Nat) (c : Ch) (h : cl[q]? = some c) :
    (cl.take (q + 1)).foldl (stepRuns s1 z1 s2 z2) a = stepRuns s1 z1 s2 z2 ((cl.take q).foldl (stepRuns s1 z1 s2 z2) a) c := by
  have hlt : q < cl.length := by
    rcases Nat.lt_or_ge q cl.length with h' | h'
    · exact h'
    · rw [List.getElem?_eq_none h'] at h; cases h
  rw [List.getElem?_eq_getElem hlt] at h
  simp at h
  rw [List.take_succ_eq_append_getElem hlt, List.foldl_append, h]
  rfl

theorem COK.next {nF nT : Int} : ∀ {cs : List Ch} {b : Bool} {pi pj : Int}, COK nF nT b pi pj cs → ∀ (k : Nat) (c c' : Ch), cs[k]? = some c → cs[k + 1]? = some c' → c.i1 < c'.i0
  | [], _, _, _, _, k, c, c', h, _ => by simp at h
  | d :: [], _, _, _, hk, k, c, c', h, h' => by simp at h'
  | d :: e :: r, _, _, _, hk, 0, c, c', h, h' => by
    simp at h h'; subst h; subst h'
    exact hk.2.2.2.2.2.2.1 rfl
  | d :: e :: r, _, _, _, hk, k + 1, c, c', h, h' => by
    simp only [List.getElem?_cons_succ] at h h'
    exact COK.next hk.2.2.2.2 k c c' h h'

theorem fold_att {nF nT : Int} (s1 : ByteArray) (z1 : List Int) (s2 : ByteArray) (z2 : List Int) {cl : List Ch} {b : Bool} {pi pj : Int} (hok : COK nF nT b pi pj cl) (hbd : ∀ (k : Nat) (c : Ch), cl[k]? = some c → 0 ≤ c.i0 ∧ c.i0 ≤ c.i1) (c0 : Ch) (h0 : cl[0]? = some c0) (q : Nat) (c : Ch) (h : cl[q]? = some c) :
    0 ≤ ((cl.take q).foldl (stepRuns s1 z1 s2 z2) ([], hI0 c0)).2 ∧ ((cl.take q).foldl (stepRuns s1 z1 s2 z2) ([], hI0 c0)).2 ≤ c.i0 := by
  cases q with
  | zero =>
    rw [h0] at h; cases h
    have := hbd 0 c0 h0
    simp only [List.take_zero, List.foldl_nil]
    unfold hI0; omega
  | succ q =>
    obtain ⟨d, hd⟩ : ∃ d, cl[q]? = some d := by
      have hlt : q + 1 < cl.length := by
        rcases Nat.lt_or_ge (q + 1) cl.length with h' | h'
        · exact h'
        · rw [List.getElem?_eq_none h'] at h; cases h
      exact ⟨cl[q], by simp⟩
    rw [fold_end s1 z1 s2 z2 cl _ q d hd]
    have h1 := hok.next q d c hd h
    have h2 := hbd q d hd
    simp only [stepRuns]
    omega

/-- The same behind the loop, where no change's variable is wanted any more. -/
theorem runs_step0 {wf wa w1 w2 : World} {g : Nat} {fr tw fc tc : Int} {rv rv1 : Value} {rs rs1 : List (Int × ByteArray)}
    (hv : HVar wa g fr tw fc tc rv) (hr : RunsIn wa (g + 1) rv rs) 
    (hbf : Below g wf wa) (hga : g < wa.heap.size) (hb1 : Below wa.heap.size wa w1) (hR2 : RunsIn w2 (g + 1) rv1 rs1) (hg2 : w1.grownBy w2 rv.ownBlock) :
    HVar (w2.setCell ⟨g, 4, none⟩ rv1) g fr tw fc tc rv1 ∧ RunsIn (w2.setCell ⟨g, 4, none⟩ rv1) (g + 1) rv1 rs1 ∧
    Below g wf (w2.setCell ⟨g, 4, none⟩ rv1) ∧ g < (w2.setCell ⟨g, 4, none⟩ rv1).heap.size := by
  have hz1 := hb1.size
  have hz2 := hg2.size
  have hne : some g ≠ rv.ownBlock := owns_ne hr
  have k1 : w2.heap[g]? = wa.heap[g]? := (hg2.block g (by omega) hne).trans (hb1.block g hga)
  refine ⟨(hv.kept k1).set4 _, ownsRow_setCell_below hR2 (by simp) _, ?_, ?_⟩
  · refine Below.setCell (p := ⟨g, 4, none⟩) ?_ (Nat.le_refl _) _
    refine hbf.trans ⟨hg2.os.trans hb1.os, hg2.tape.trans hb1.tape, hg2.output.trans hb1.output, by omega, fun k hk => ?_⟩
    refine (hg2.block k (by omega) (fun e => ?_)).trans (hb1.block k (by omega))
    have := (World.ownsRow.lt hr k e.symm).1
    omega
  · simp only [World.setCell, Array.size_modify]; omega

theorem HunksIn.below {w w' : World} {base B : Nat} {v : Value} {hs : List Hk} (h : HunksIn w base v hs) (hb : Below B w w') (hB : w.heap.size ≤ B) : HunksIn w' base v hs := by
  obtain ⟨rvs, hl, ho, hr⟩ := h
  refine ⟨rvs, hl, owns_below ho hb (fun k hk => ?_), fun i h rv h1 h2 => owns_below (hr i h rv h1 h2) hb (fun k hk => ?_)⟩
  · have := (World.ownsRow.lt ho k hk).2; omega
  · have := (World.ownsRow.lt (hr i h rv h1 h2) k hk).2; omega

theorem hksCells_snoc {hs : List Hk} {rvs : List Value} (hl : rvs.length = hs.length) (h : Hk) (rv : Value) : hksCells (hs ++ [h]) (rvs ++ [rv]) = hksCells hs rvs ++ hkCells h rv := by
  unfold hksCells
  rw [List.zip_append hl.symm]
  simp

/-- A hunk is pushed. -/
theorem hunks_push {wm w1 : World} {base : Nat} {u v' rv : Value} {dn : List Hk} {rvs : List Value} {h : Hk} (hl : rvs.length = dn.length) (ho : wm.ownsRow base 36 5 u dn.length (hksCells dn rvs))
    (hr : ∀ (i : Nat) (h : Hk) (rv : Value), dn[i]? = some h → rvs[i]? = some rv → RunsIn wm base rv h.runs) (hrv : RunsIn wm base rv h.runs) (hg : wm.grownBy w1 u.ownBlock)
    (ho' : w1.ownsRow base 36 5 v' (dn.length + 1) (hksCells dn rvs ++ hkCells h rv)) : HunksIn w1 base v' (dn ++ [h]) := by
  refine ⟨rvs ++ [rv], by simp [hl], by rw [hksCells_snoc hl, List.length_append]; exact ho', fun i h' rv' h1 h2 => ?_⟩
  by_cases hi : i < dn.length
  · rw [List.getElem?_append_left hi] at h1
    rw [List.getElem?_append_left (by omega)] at h2
    have := hr i h' rv' h1 h2
    exact World.ownsRow.kept this hg (owns_apart this ho (by decide))
  · have hi' : i = dn.length := by
      rcases Nat.lt_or_ge i (dn ++ [h]).length with hlt | hge
      · simp at hlt; omega
      · rw [List.getElem?_eq_none hge] at h1; cases h1
    subst hi'
    rw [List.getElem?_append_right (Nat.le_refl _)] at h1
    rw [List.getElem?_append_right (by omega)] at h2
    simp [hl] at h1 h2
    subst h1; subst h2
    exact World.ownsRow.kept hrv hg (owns_apart hrv ho (by decide))

theorem lastOf_take {c0 cz : Ch} {r : List Ch} {M : Nat} (h : (c0 :: r)[M]? = some cz) (hM : M ≤ r.length) : lastOf c0 (r.take M) = cz := by
  unfold lastOf
  cases M with
  | zero => simp at h; simp [h]
  | succ M =>
    simp only [List.getElem?_cons_succ] at h
    have hlt : M < r.length := by omega
    rw [List.getElem?_eq_getElem hlt] at h
    simp at h
    rw [List.getLast?_eq_getElem?]
    simp [List.length_take, Nat.min_eq_left hM, h]

theorem groupM_step (s1 : ByteArray) (z1 : List Int) (s2 : ByteArray) (z2 : List Int) (nF : Int) (f M : Nat) (c0 cz : Ch) (r : List Ch) (rs : List (Int × ByteArray)) (I0 I1 TC FR TW att : Int)
    (hM : M = gcnt c0 r) (hcz : (c0 :: r)[M]? = some cz) (hI0 : I0 = Go.Proofs.Qxb6602907a.hI0 c0) (hI1 : I1 = Go.Proofs.Qxb6602907a.hI1 nF cz) (hTC : TC = cz.j1 + (I1 - cz.i1) - (c0.j0 - (c0.i0 - I0)))
    (hFR : FR = bump (I1 - I0) I0) (hTW : TW = bump TC (c0.j0 - (c0.i0 - I0))) (hf : ((c0 :: r).take (M + 1)).foldl (stepRuns s1 z1 s2 z2) ([], I0) = (rs, att)) :
    groupM s1 z1 s2 z2 nF (f + 1) (c0 :: r) = ⟨FR, TW, I1 - I0, TC, addRun rs 32 (segI s1 z1 att I1)⟩ :: groupM s1 z1 s2 z2 nF f (r.drop M) := by
  have hle : M ≤ r.length := by rw [hM]; exact gcnt_le c0 r
  rw [groupM, ← hM, lastOf_take hcz hle]
  subst hTW hFR hTC hI1 hI0
  simp only [List.take_succ_cons] at hf
  simp only [hkOf, hkRuns, hf, hJ0, hJ1]

theorem COK.drop {nF nT : Int} : ∀ {cs : List Ch} {b : Bool} {pi pj : Int}, COK nF nT b pi pj cs → ∀ (k : Nat) (c : Ch), cs[k]? = some c → COK nF nT false c.i1 c.j1 (cs.drop (k + 1))
  | [], _, _, _, _, k, c, h => by simp at h
  | d :: r, _, _, _, hk, 0, c, h => by simp at h; subst h; simpa using hk.2.2.2.2
  | d :: r, _, _, _, hk, k + 1, c, h => by
    simp only [List.getElem?_cons_succ] at h
    simpa using COK.drop hk.2.2.2.2 k c h

theorem ChAt.drop {w : World} {b o : Nat} {cs : List Ch} (h : ChAt w (some ⟨b, o, none⟩) cs) (m : Nat) (ao : Option Addr) (ha : m < cs.length → ao = some ⟨b, o + m * 4, none⟩) : ChAt w ao (cs.drop m) := by
  intro k c hk
  rw [List.getElem?_drop] at hk
  have hlt : m + k < cs.length := by
    rcases Nat.lt_or_ge (m + k) cs.length with h | h
    · exact h
    · rw [List.getElem?_eq_none h] at hk; cases hk
  obtain ⟨b', o', he, q⟩ := h (m + k) c hk
  obtain ⟨rfl, rfl⟩ : b = b' ∧ o = o' := by simpa using he
  refine ⟨b, o + m * 4, ha (by omega), ?_⟩
  rw [show o + m * 4 + k * 4 = o + (m + k) * 4 from by omega]
  exact q
end Go.Proofs.Qxb6602907a
