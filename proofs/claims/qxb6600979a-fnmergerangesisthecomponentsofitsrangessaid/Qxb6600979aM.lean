import Derived.Test.Qxb6600979aS1
namespace Go.Proofs.Qxb6600979a
open Go.RowKit
set_option linter.unusedVariables false

/-- One range more, merged into those before. -/
def mstep (M : List (Sl × Sl)) (r : Sl × Sl) : List (Sl × Sl) :=
  match M.getLast? with
  | none => M ++ [r]
  | some p => if mts (pl p) (pl r) = true then M.dropLast ++ [(p.1, if eb p.2.pb r.2.pb = true then r.2 else p.2)] else M ++ [r]

/-- Of the row's cells those from range i on hold ys. -/
def TailF (zs : List Value) (ys : List (Sl × Sl)) (i : Nat) : Prop := ∀ j p, i ≤ j → ys[j]? = some p → zs[j * 2]? = some p.1.v ∧ zs[j * 2 + 1]? = some p.2.v
def Good (w : World) (g : Nat) (xs : List (Sl × Sl)) : Prop := ∀ p ∈ xs, (SlAt w p.1 ∧ SlAt w p.2) ∧ Off g p.1 ∧ Off g p.2
theorem Good.kept {w W : World} {g : Nat} {xs : List (Sl × Sl)} {row : Option Nat} (h : Good w g xs) (hg : w.grownBy W row) (hr : ∀ k, row = some k → k = g) : Good W g xs := fun p hp =>
  ⟨⟨(h p hp).1.1.kept hg (fun k e => by rw [hr k e]; exact (h p hp).2.1), (h p hp).1.2.kept hg (fun k e => by rw [hr k e]; exact (h p hp).2.2)⟩, (h p hp).2⟩
theorem Good.below {w W : World} {g : Nat} {xs : List (Sl × Sl)} (h : Good w g xs) (hb : Below w.heap.size w W) : Good W g xs := fun p hp => ⟨⟨(h p hp).1.1.below hb, (h p hp).1.2.below hb⟩, (h p hp).2⟩

theorem tail_put {zs : List Value} {ys : List (Sl × Sl)} {i m : Nat} {a b : Value} (h : TailF zs ys i) (hm : m ≤ i) : TailF (put2 zs m a b) ys (i + 1) := by
  intro j p hj hp
  unfold put2
  simp only [List.getElem?_set, List.length_set]
  rw [if_neg (by omega), if_neg (by omega), if_neg (by omega), if_neg (by omega)]
  exact h j p (by omega) hp
theorem tail_set {zs : List Value} {ys : List (Sl × Sl)} {i m : Nat} {a : Value} (h : TailF zs ys i) (hm : m < i) : TailF (zs.set (m * 2 + 1) a) ys (i + 1) := by
  intro j p hj hp
  simp only [List.getElem?_set]
  rw [if_neg (by omega), if_neg (by omega)]
  exact h j p (by omega) hp
theorem fill_last {zs : List Value} {M : List (Sl × Sl)} {p : Sl × Sl} {t : Sl} {N : Nat} (hl : zs.length = N * 2) (h : Fill zs (M ++ [p])) (hm : M.length < N) : Fill (zs.set (M.length * 2 + 1) t.v) (M ++ [(p.1, t)]) := by
  intro j q hq
  simp only [List.getElem?_set]
  by_cases hj : j < M.length
  · rw [List.getElem?_append_left hj] at hq
    obtain ⟨a1, a2⟩ := h j q (by rw [List.getElem?_append_left hj]; exact hq)
    rw [if_neg (by omega), if_neg (by omega)]
    exact ⟨a1, a2⟩
  · rw [List.getElem?_append_right (by omega)] at hq
    have : j = M.length := by
      rcases Nat.eq_or_lt_of_le (Nat.le_of_not_lt hj) with h' | h'
      · exact h'.symm
      · rw [List.getElem?_eq_none (by simp; omega)] at hq; cases hq
    subst this
    simp at hq
    subst hq
    obtain ⟨a1, a2⟩ := h M.length p (by rw [List.getElem?_append_right (Nat.le_refl _)]; simp)
    rw [if_neg (by omega), if_pos rfl, if_pos (by omega)]
    exact ⟨a1, rfl⟩

/-- What 'mergeRanges' hands back, of ranges ys that lie in the row g. -/
def MrgR (ys : List (Sl × Sl)) (B g N : Nat) (w w' : World) (e : Ending) : Prop := ∃ M : List (Sl × Sl), e = .returned (.slice (some ⟨g, 0, none⟩) M.length N) ∧ M.length ≤ N ∧ RowR w' (some ⟨g, 0, none⟩) M ∧ AllAt w' M ∧ Below B w w' ∧ ∃ ys', ys'.Perm ys ∧ Sorted ys' ∧ M = ys'.foldl mstep []

/-- The loop's state: k ranges read, merged into M; the row's cells are zs. -/
structure MRel (B g N : Nat) (ys : List (Sl × Sl)) (w wr : World) (k : Nat) (M : List (Sl × Sl)) (zs : List Value) : Prop where
  own : wr.ownsRow B 32 2 (.slice (some ⟨g, 0, none⟩) N N) N zs
  fill : Fill zs M
  tail : TailF zs ys k
  good : Good wr g ys
  goodM : Good wr g M
  below : Below B w wr
  eq : M = (ys.take k).foldl mstep []

theorem owns_drewN {w : World} {base : Nat} {e : TypeId} {size : Nat} {v : Value} {n : Nat} {xs : List Value} (h : w.ownsRow base e size v n xs) (q : Nat) : (w.drewN q).ownsRow base e size v n xs := h

theorem fold_next {ys : List (Sl × Sl)} {k : Nat} {M : List (Sl × Sl)} {p : Sl × Sl} (h : M = (ys.take k).foldl mstep []) (hp : ys[k]? = some p) : mstep M p = (ys.take (k + 1)).foldl mstep [] := by
  rw [List.take_add_one, hp, List.foldl_append, ← h]; rfl

theorem MRel.push {B g N : Nat} {ys : List (Sl × Sl)} {w wr W4 w5 : World} {k : Nat} {M : List (Sl × Sl)} {zs : List Value} {p : Sl × Sl} (h : MRel B g N ys w wr k M zs) (hM : M.length ≤ k) (hk : k < N) (hp : ys[k]? = some p) (hst : mstep M p = M ++ [p]) (hBg : B ≤ g)
    (hb : Below wr.heap.size wr W4) (hg : W4.grownBy w5 (some g)) (ho : w5.ownsRow B 32 2 (.slice (some ⟨g, 0, none⟩) N N) N (put2 zs M.length p.1.v p.2.v)) : MRel B g N ys w w5 (k + 1) (M ++ [p]) (put2 zs M.length p.1.v p.2.v) := by
  have hglt : g < wr.heap.size := (World.ownsRow.lt h.own g rfl).2
  refine ⟨ho, fill_push h.own.1 (by omega) h.fill, tail_put h.tail hM, (h.good.below hb).kept hg (fun k e => by cases e; rfl), ?_, ?_, by rw [← hst]; exact fold_next h.eq hp⟩
  · have h1 : Good w5 g M := (h.goodM.below hb).kept hg (fun k e => by cases e; rfl)
    intro q hq
    simp only [List.mem_append, List.mem_singleton] at hq
    rcases hq with hq | rfl
    · exact h1 q hq
    · exact ((h.good.below hb).kept hg (fun k e => by cases e; rfl)) q (List.mem_of_getElem? hp)
  · exact (h.below.trans (hb.mono (by omega))).grown hg (Nat.le_trans (by omega) hb.size) (fun k e => by cases e; exact hBg)

theorem MRel.last {B g N : Nat} {ys : List (Sl × Sl)} {w wr W4 : World} {k : Nat} {M : List (Sl × Sl)} {zs : List Value} {p q : Sl × Sl} {t : Sl} (h : MRel B g N ys w wr k (M ++ [p]) zs) (hM : M.length < k) (hk : k < N) (hp : ys[k]? = some q) (hst : mstep (M ++ [p]) q = M ++ [(p.1, t)]) (ht : t = p.2 ∨ t = q.2) (hBg : B ≤ g)
    (hb : Below wr.heap.size wr W4) : MRel B g N ys w (W4.setCell ⟨g, M.length * 2 + 1, none⟩ t.v) (k + 1) (M ++ [(p.1, t)]) (zs.set (M.length * 2 + 1) t.v) := by
  have hglt : g < wr.heap.size := (World.ownsRow.lt h.own g rfl).2
  have ho4 : W4.ownsRow B 32 2 (.slice (some ⟨g, 0, none⟩) N N) N zs := owns_below h.own hb (fun k e => by cases e; exact hglt)
  obtain ⟨ho, hg⟩ := ho4.stored (M.length * 2 + 1) t.v
  have hG : Good (W4.setCell ⟨g, M.length * 2 + 1, none⟩ t.v) g ys := (h.good.below hb).kept hg (fun k e => by cases e; rfl)
  have hGM : Good (W4.setCell ⟨g, M.length * 2 + 1, none⟩ t.v) g (M ++ [p]) := (h.goodM.below hb).kept hg (fun k e => by cases e; rfl)
  refine ⟨ho, fill_last h.own.1 h.fill (by omega), tail_set h.tail hM, hG, ?_, ?_, by rw [← hst]; exact fold_next h.eq hp⟩
  · intro r hr
    simp only [List.mem_append, List.mem_singleton] at hr
    have hpp := hGM p (by simp)
    have hqq := hG q (List.mem_of_getElem? hp)
    rcases hr with hr | rfl
    · exact hGM r (by simp [hr])
    · rcases ht with rfl | rfl
      · exact hpp
      · exact ⟨⟨hpp.1.1, hqq.1.2⟩, hpp.2.1, hqq.2.2⟩
  · exact (h.below.trans (hb.mono (by omega))).grown hg (Nat.le_trans (by omega) hb.size) (fun k e => by cases e; exact hBg)

theorem MRel.grow {B g N : Nat} {ys : List (Sl × Sl)} {w wr W : World} {k : Nat} {M : List (Sl × Sl)} {zs : List Value} (h : MRel B g N ys w wr k M zs) (hBg : B ≤ g) (hb : Below wr.heap.size wr W) : MRel B g N ys w W k M zs := by
  have hglt : g < wr.heap.size := (World.ownsRow.lt h.own g rfl).2
  exact ⟨owns_below h.own hb (fun k e => by cases e; exact hglt), h.fill, h.tail, h.good.below hb, h.goodM.below hb, h.below.trans (hb.mono (by omega)), h.eq⟩
theorem two_new_d (w : World) (a b : Value) (t : TypeId) (g : Nat) (hg : g = w.heap.size) : ∀ j u, [a, b][j]? = some u → (w.alloc (.cells #[a, b] t)).drew.cell? ((⟨g, 0, none⟩ : Addr).add j) = some u := two_new w a b t g hg

theorem mstep_nil (r : Sl × Sl) : mstep [] r = [] ++ [r] := rfl
theorem mstep_no {M : List (Sl × Sl)} {p r : Sl × Sl} (h : mts (pl p) (pl r) = false) : mstep (M ++ [p]) r = M ++ [p] ++ [r] := by
  unfold mstep
  rw [List.getLast?_concat]
  simp only [h, Bool.false_eq_true, if_false]
theorem mstep_yes {M : List (Sl × Sl)} {p r : Sl × Sl} (h : mts (pl p) (pl r) = true) : mstep (M ++ [p]) r = M ++ [(p.1, if eb p.2.pb r.2.pb = true then r.2 else p.2)] := by
  unfold mstep
  rw [List.getLast?_concat]
  simp only [h, if_true, List.dropLast_concat]

set_option maxHeartbeats 8000000 in
set_option maxRecDepth 8000 in
theorem merge28 (B g N : Nat) (ys : List (Sl × Sl)) (zs : List Value) (w : World) (hown : w.ownsRow B 32 2 (.slice (some ⟨g, 0, none⟩) N N) N zs) (hf : Fill zs ys) (hl : ys.length = N) (hN : N * 48 ≤ 1048576) (hall : AllAt w ys) (hoff : ∀ p ∈ ys, Off g p.1 ∧ Off g p.2) :
    Calls Try.prog 28 #[.slice (some ⟨g, 0, none⟩) N N] w fun e w' => MrgR ys B g N w w' e := by
  have hsort := sort32 B g N ys zs w hown hf hl (by omega) hall hoff
  have hBg : B ≤ g ∧ g < w.heap.size := World.ownsRow.lt hown g rfl
  have HOff : Hid (∀ p ∈ ys, Off g p.1 ∧ Off g p.2) := hoff
  have HL : Hid (ys.length = N) := hl
  clear hown hf hl hall hoff
  obtain ⟨i0, hi, hz0, hz1, hz2⟩ := info_parts Try.info32
  go_enter Try.func28, Try.ntmps28
  go_wp2_with (first | (go_at_call 32; refine hsort.mono ?_; rintro e w0 ⟨rfl, ys', zs', ho0, hf0, hp0, hs0, ha0, hg0⟩))
  have HOff' : Hid (∀ p ∈ ys', Off g p.1 ∧ Off g p.2) := fun p hp => HOff.out p (hp0.mem_iff.mp hp)
  have HL' : Hid (ys'.length = N) := by unfold Hid; rw [hp0.length_eq]; exact HL.out
  have HO0 : Hid (w0.ownsRow B 32 2 (.slice (some ⟨g, 0, none⟩) N N) N zs') := ho0
  have HT0 : Hid (TailF zs' ys' 0) := fun j p _ hj => hf0 j p hj
  have HG0 : Hid (Good w0 g ys') := fun p hp => ⟨ha0 p hp, HOff'.out p hp⟩
  have HB0 : Hid (Below B w w0) := grown_below hg0 (by omega) (fun k h => by cases h; exact hBg.1)
  have HPm : Hid (ys'.Perm ys) := hp0
  have HSo : Hid (Sorted ys') := hs0
  clear hsort ho0 hf0 hp0 hs0 ha0 hg0 HOff
  go_loopw [3, 13] (fun v i wr => ∃ (k : Nat) (M : List (Sl × Sl)) (zs : List Value), k ≤ N ∧ M.length ≤ k ∧ i = .int .i64 k ∧ v = .slice (some ⟨g, 0, none⟩) M.length N ∧ Hid (MRel B g N ys' w wr k M zs)) (fun v i _ => N - (intOf i).toNat)
  case atStart => exact ⟨0, [], _, by omega, by simp, rfl, rfl, HO0.out, fun j p h => (by simp at h), HT0.out, HG0.out, fun p h => (by cases h), HB0.out, rfl⟩
  case round =>
    obtain ⟨k, M, zk, hk, hMk, rfl, rfl, HR⟩ := hrel
    clear HO0 HT0 HG0 HB0
    have HO : Hid (wr.ownsRow B 32 2 (.slice (some ⟨g, 0, none⟩) N N) N zk) := HR.out.own
    by_cases hlt : k < N
    · obtain ⟨⟨x, y⟩, hp⟩ : ∃ p, ys'[k]? = some p := ⟨ys'[k]'(by rw [HL'.out]; exact hlt), by simp⟩
      obtain ⟨t1, t2⟩ := HR.out.tail k _ (Nat.le_refl _) hp
      have c1 : wr.cell? ⟨g, k * 2, none⟩ = some x.v := by rw [HO.out.cellAt _ (by omega)]; exact t1
      have c2 : wr.cell? ⟨g, k * 2 + 1, none⟩ = some y.v := by rw [HO.out.cellAt _ (by omega)]; exact t2
      have hgr := HR.out.good _ (List.mem_of_getElem? hp)
      have HX : Hid (SlAt wr x) := hgr.1.1
      have HY : Hid (SlAt wr y) := hgr.1.2
      have HP : Hid (ys'[k]? = some (x, y)) := hp
      have hbig : g < wr.heap.size := World.block_lt_of_cell? wr _ c1
      have hzl : zk.length = N * 2 := HO.out.1
      clear hp t1 t2 hgr
      obtain ⟨xa, xn, xc, xl⟩ := x
      obtain ⟨ya, yn, yc, yl⟩ := y
      unfold Sl.v at c1 c2
      simp only at c1 c2
      have ik : (k : Int) < N := by omega
      rcases List.eq_nil_or_concat M with hM | ⟨M0, p, hM⟩
      · subst hM
        simp only [List.length_nil] at hMk ⊢
        go_wp2
        go_quiet (fail)
        go_wp2_with (at_builtin; refine wpList_append_in _ rfl (.tmp 44) (.tmp 46) 26 26 rfl B 32 i0 Try.underlying26 hi hz1 g N 0 zk rfl ((owns_drewN (HO.out.alloc _) _).alloc _) (by omega) (.slice (some ⟨wr.heap.size + 1, 0, none⟩) 1 1) (.slice xa xn xc) (.slice ya yn yc) rfl (Src.ofSlice _ Try.underlying26 _ 1 1 _ rfl (two_new _ _ _ _ _ (by simp)) (by intro u hu; simp at hu; rcases hu with rfl | rfl <;> rfl)) ?_; intro w5 ho5 hg5)
        go_roundw
        case rel => exact ⟨k + 1, [((⟨xa, xn, xc, xl⟩ : Sl), (⟨ya, yn, yc, yl⟩ : Sl))], _, by omega, by simp, by go_num, rfl, HR.out.push (by simp) hlt HP.out rfl hBg.1 ((below_drewN ((Below.refl _ _).alloc (Nat.le_refl _) _) _).alloc (by simp) _) hg5 ho5⟩
        case measure => go_light; simp only [intOf]; omega
      · rw [List.concat_eq_append] at hM
        subst hM
        obtain ⟨m, HMl⟩ : ∃ m, Hid (M0.length = m) := ⟨_, rfl⟩
        have hml : (M0 ++ [p]).length = m + 1 := by rw [List.length_append, HMl.out]; rfl
        rw [hml] at hMk ⊢
        have hpp := HR.out.goodM p (by simp)
        obtain ⟨f1, f2⟩ := HR.out.fill M0.length p (by rw [List.getElem?_append_right (Nat.le_refl _)]; simp)
        rw [HMl.out] at f1 f2
        have d1 : wr.cell? ⟨g, m * 2, none⟩ = some p.1.v := by rw [HO.out.cellAt _ (by omega)]; exact f1
        have d2 : wr.cell? ⟨g, m * 2 + 1, none⟩ = some p.2.v := by rw [HO.out.cellAt _ (by omega)]; exact f2
        have hfz := HO.out.frozenAt (m * 2 + 1)
        obtain ⟨bm, hbm⟩ : ∃ bm, bm = mts (pl p) (pl ((⟨xa, xn, xc, xl⟩ : Sl), (⟨ya, yn, yc, yl⟩ : Sl))) := ⟨_, rfl⟩
        have hmeet : ∀ W, Below wr.heap.size wr W → Calls Try.prog 35 #[rv p, rv ((⟨xa, xn, xc, xl⟩ : Sl), (⟨ya, yn, yc, yl⟩ : Sl))] W fun e w' => e = .returned (.bool bm) ∧ ∃ o1 o2, w' = (W.alloc o1).alloc o2 := fun W hW => by
          rw [hbm]
          exact meets35 p _ W (hpp.1.1.below hW) (hpp.1.2.below hW) (HX.out.below hW) (HY.out.below hW)
        have hlater : ∀ W, Below wr.heap.size wr W → Calls Try.prog 36 #[p.2.v, Sl.v ⟨ya, yn, yc, yl⟩] W fun e w' => e = .returned (if eb p.2.pb (Sl.pb ⟨ya, yn, yc, yl⟩) = true then (⟨ya, yn, yc, yl⟩ : Sl) else p.2).v ∧ w' = W := fun W hW => later36 p.2 _ W (hpp.1.2.below hW) (HY.out.below hW)
        have HBM : Hid (bm = mts (pl p) (pl ((⟨xa, xn, xc, xl⟩ : Sl), (⟨ya, yn, yc, yl⟩ : Sl)))) := hbm
        clear f1 f2 hpp hbm
        obtain ⟨⟨pa, pn, pc, plx⟩, ⟨qa, qn, qc, qlx⟩⟩ := p
        obtain ⟨t, HTt⟩ : ∃ t, Hid (t = if eb (Sl.pb ⟨qa, qn, qc, qlx⟩) (Sl.pb ⟨ya, yn, yc, yl⟩) = true then (⟨ya, yn, yc, yl⟩ : Sl) else ⟨qa, qn, qc, qlx⟩) := ⟨_, rfl⟩
        simp only [← HTt.out] at hlater
        unfold rv Sl.v at hmeet
        unfold Sl.v at hlater d1 d2
        simp only at hmeet hlater d1 d2
        have ia : (0 : Int) ≤ (m : Int) := by omega
        have ib : (m : Int) < (m : Int) + 1 := by omega
        have iw1 : IntKind.i64.wrap (((m + 1 : Nat) : Int) - 1) = m := by rw [IntKind.wrap_i64]; omega
        have iw2 : IntKind.i64.wrap ((m : Int) + 1 - 1) = m := by rw [IntKind.wrap_i64]; omega
        have iw3 : IntKind.i64.wrap (m : Int) = m := by rw [IntKind.wrap_i64]; omega
        have hb1 : g < wr.heap.size + 1 := by omega
        have hb2 : g < wr.heap.size + 1 + 1 := by omega
        have hb3 : g < wr.heap.size + 2 := by omega
        have hb4 : g < wr.heap.size + 3 := by omega
        have hb5 : g ≠ wr.heap.size := by omega
        have hbA : ∀ o, Below wr.heap.size wr (wr.alloc o).drew := fun o => ((Below.refl _ _).alloc (Nat.le_refl _) _).drew
        cases bm
        · go_wp2
          go_region_held3 (fun w' => w'.cell? ⟨g, m * 2, none⟩ = some (.slice pa pn pc) ∧ w'.cell? ⟨g, m * 2 + 1, none⟩ = some (.slice qa qn qc) ∧ w'.cell? ⟨wr.heap.size, 0, none⟩ = some (.slice xa xn xc) ∧ w'.cell? ⟨wr.heap.size, 1, none⟩ = some (.slice ya yn yc)) (simp [go_sem, World.cell?_alloc_past, *]) (first | (go_at_call 35; refine (hmeet _ (hbA _)).mono ?_; rintro e w' ⟨rfl, o1, o2, rfl⟩))
          all_goals
            go_wp2_with (at_builtin; refine wpList_append_in _ rfl (.tmp 44) (.tmp 46) 26 26 rfl B 32 i0 Try.underlying26 hi hz1 g N (m + 1) zk rfl (((((HO.out.alloc _).alloc _).alloc _).alloc _).drew) (by omega) (.slice (some ⟨wr.heap.size + 3, 0, none⟩) 1 1) (.slice xa xn xc) (.slice ya yn yc) rfl (Src.ofSlice _ Try.underlying26 _ 1 1 _ rfl (two_new_d _ _ _ _ _ (by simp)) (by intro u hu; simp at hu; rcases hu with rfl | rfl <;> rfl)) ?_; intro w5 ho5 hg5)
            go_roundw
            case rel =>
              have hb6 : Below wr.heap.size wr ((((wr.alloc (Obj.cells #[Value.slice xa xn xc, Value.slice ya yn yc] 32)).alloc o1).alloc o2).alloc (Obj.cells #[Value.slice xa xn xc, Value.slice ya yn yc] 32)).drew := (((((Below.refl _ _).alloc (Nat.le_refl _) _).alloc (by simp) _).alloc (by simp; omega) _).alloc (by simp; omega) _).drew
              refine ⟨k + 1, M0 ++ [((⟨pa, pn, pc, plx⟩ : Sl), (⟨qa, qn, qc, qlx⟩ : Sl))] ++ [((⟨xa, xn, xc, xl⟩ : Sl), (⟨ya, yn, yc, yl⟩ : Sl))], _, by omega, by rw [List.length_append, hml]; simp; omega, by go_num, by rw [List.length_append, hml]; rfl, HR.out.push (by rw [hml]; omega) hlt HP.out (mstep_no HBM.out.symm) hBg.1 hb6 hg5 (by rw [hml]; exact ho5)⟩
            case measure => go_light; simp only [intOf]; omega
        · go_wp2
          go_region_held3 (fun w' => w'.cell? ⟨g, m * 2, none⟩ = some (.slice pa pn pc) ∧ w'.cell? ⟨g, m * 2 + 1, none⟩ = some (.slice qa qn qc) ∧ w'.cell? ⟨wr.heap.size, 0, none⟩ = some (.slice xa xn xc) ∧ w'.cell? ⟨wr.heap.size, 1, none⟩ = some (.slice ya yn yc)) (simp [go_sem, World.cell?_alloc_past, *]) (first | (go_at_call 35; refine (hmeet _ (hbA _)).mono ?_; rintro e w' ⟨rfl, o1, o2, rfl⟩))
          all_goals
            have hb7 : Below wr.heap.size wr (((wr.alloc (Obj.cells #[Value.slice xa xn xc, Value.slice ya yn yc] 32)).alloc o1).alloc o2).drew.drew := ((((Below.refl _ _).alloc (Nat.le_refl _) _).alloc (by simp) _).alloc (by simp; omega) _).drew.drew
            obtain ⟨ta, tn, tc, tl⟩ := t
            simp only at hlater
            go_wp2
            go_region_with (first | (go_at_call 36; refine (hlater _ hb7).mono ?_; rintro e w' ⟨rfl, rfl⟩))
            all_goals
              go_wp2
              go_roundw
              case rel =>
                have hst : mstep (M0 ++ [((⟨pa, pn, pc, plx⟩ : Sl), (⟨qa, qn, qc, qlx⟩ : Sl))]) ((⟨xa, xn, xc, xl⟩ : Sl), (⟨ya, yn, yc, yl⟩ : Sl)) = M0 ++ [((⟨pa, pn, pc, plx⟩ : Sl), (⟨ta, tn, tc, tl⟩ : Sl))] := by
                  rw [mstep_yes HBM.out.symm]
                  simp only
                  rw [← HTt.out]
                have ht : (⟨ta, tn, tc, tl⟩ : Sl) = ⟨qa, qn, qc, qlx⟩ ∨ (⟨ta, tn, tc, tl⟩ : Sl) = ⟨ya, yn, yc, yl⟩ := by
                  rw [HTt.out]; split
                  · exact .inr rfl
                  · exact .inl rfl
                have h1 := HR.out.last (W4 := wr) (t := ⟨ta, tn, tc, tl⟩) (by rw [HMl.out]; omega) hlt HP.out hst ht hBg.1 (Below.refl _ _)
                rw [HMl.out] at h1
                have h2 := h1.grow hBg.1 (((((Below.refl _ _).alloc (Nat.le_refl _) (Obj.cells #[Value.slice xa xn xc, Value.slice ya yn yc] 32)).alloc (by simp) o1).alloc (by simp; omega) o2).drew.drew)
                exact ⟨k + 1, M0 ++ [((⟨pa, pn, pc, plx⟩ : Sl), (⟨ta, tn, tc, tl⟩ : Sl))], _, by omega, by rw [List.length_append, HMl.out]; simp; omega, by go_num, by rw [List.length_append, HMl.out]; rfl, h2⟩
              case measure => go_light; simp only [intOf]; omega
    · have hkN : k = N := by omega
      have hM := HR.out.eq
      rw [hkN, List.take_of_length_le (by rw [HL'.out]; exact Nat.le_refl _)] at hM
      go_wp2
      go_ret
      exact ⟨M, rfl, by omega, fill_row HO.out HR.out.fill (by omega), fun p hp => (HR.out.goodM p hp).1, HR.out.below, ys', HPm.out, HSo.out, hM⟩
end Go.Proofs.Qxb6600979a
