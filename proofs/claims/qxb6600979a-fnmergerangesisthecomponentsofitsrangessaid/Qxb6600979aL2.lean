import Derived.Test.Qxb6600979aW3
namespace Go.Proofs.Qxb6600979a
open Go.RowKit
set_option linter.unusedVariables false

/-! ### append within the capacity, told of the whole row -/
def put2 (xs : List Value) (k : Nat) (a b : Value) : List Value := (xs.set (k * 2) a).set (k * 2 + 1) b

theorem put2_len (xs : List Value) (k : Nat) (a b : Value) : (put2 xs k a b).length = xs.length := by simp [put2]

theorem splice2 (xs : List Value) (k N : Nat) (a b : Value) (hl : xs.length = N * 2) (hk : k < N) : xs.take (k * 2) ++ [a, b] ++ xs.drop (k * 2 + 2) = put2 xs k a b := by
  apply List.ext_getElem?
  intro j
  unfold put2
  simp only [List.getElem?_append, List.getElem?_set, List.length_append, List.length_take, List.length_set, List.length_cons, List.length_nil, List.getElem?_take, List.getElem?_drop]
  have hm : min (k * 2) xs.length = k * 2 := by omega
  rw [hm]
  by_cases h1 : j < k * 2
  · rw [if_pos (by omega), if_pos h1, if_pos h1, if_neg (by omega), if_neg (by omega)]
  · by_cases h2 : j = k * 2
    · subst h2
      rw [if_pos (by omega), if_neg (by omega), if_neg (by omega), if_pos rfl, if_pos (by omega), Nat.sub_self]
      rfl
    · by_cases h3 : j = k * 2 + 1
      · subst h3
        rw [if_pos (by omega), if_neg (by omega), if_pos rfl, if_pos (by omega), show k * 2 + 1 - k * 2 = 1 from by omega]
        rfl
      · rw [if_neg (by omega), if_neg (by omega), if_neg (by omega)]
        congr 1
        omega

section
variable {P : Program} (w : World)
theorem run_append_in (base : Nat) (t tx ty e : TypeId) (i : TypeInfo) (ht : P.underlying t = some (.slice e)) (hi : P.info? e = some i) (hsize : i.size = 2)
    (g N k : Nat) (xs : List Value) (hown : w.ownsRow base e 2 (.slice (some ⟨g, 0, none⟩) N N) N xs) (hk : k < N) (x : Value) (a b : Value) (hs : Src P 2 tx x 1 [a, b] w) :
    ∃ w', (Builtin.append_ #[t, tx] ty #[.slice (some ⟨g, 0, none⟩) k N, x]).run P w = .ok (.slice (some ⟨g, 0, none⟩) (k + 1) N) w' ∧ w'.ownsRow base e 2 (.slice (some ⟨g, 0, none⟩) N N) N (put2 xs k a b) ∧ w.grownBy w' (some g) := by
  rcases hown.2 with ⟨h, _⟩ | ⟨g', cap, cur, he, hbg, hg, hnc, hcm, hcs, htake⟩
  · cases h
  · simp only [Value.slice.injEq, Option.some.injEq, Addr.mk.injEq, and_true, true_and] at he
    obtain ⟨rfl, rfl⟩ := he
    have hxl := hown.1
    have hcur : cur.toList = xs := by
      rw [← htake, List.take_of_length_le (by rw [Array.length_toList, hcs]; exact Nat.le_refl _)]
    have hfit : k * 2 + [a, b].length ≤ cur.size := by rw [hcs]; simp only [List.length_cons, List.length_nil]; omega
    have hst := run_storeCells_at P g (k * 2) e [a, b] 0 cur w hg (by simpa using hfit) hs.one
    simp only [Nat.add_zero] at hst
    have hroom : k + 1 ≤ N := hk
    have hr : (Builtin.append_ #[t, tx] ty #[.slice (some ⟨g, 0, none⟩) k N, x]).run P w =
        .ok (.slice (some ⟨g, 0, none⟩) (k + 1) N) (w.setRow g (cur.toList.take (k * 2) ++ [a, b] ++ cur.toList.drop (k * 2 + [a, b].length)).toArray) := by
      rcases hs.kind with ⟨e', hk'⟩ | hk' <;> simp [Builtin.append_, run_underlying ht, run_underlying hk', sizeOf, typeInfo, hi, hsize, hs.len, hroom, hs.cells, Addr.add_lit, hst]
    refine ⟨_, hr, ⟨by rw [put2_len]; exact hxl, .inr ⟨g, N, _, rfl, hbg, setRow_heap w g cur _ e _ hg, Nat.le_refl _, hcm, ?_, ?_⟩⟩, ⟨rfl, rfl, rfl, by simp, fun k' _ hk' => setRow_other w g k' _ (fun e => hk' (by simp [e]))⟩⟩
    · rw [hcur]
      simp only [List.length_cons, List.length_nil, Nat.zero_add]
      rw [splice2 xs k N a b hxl hk, List.size_toArray, put2_len, hxl]
    · rw [hcur]
      simp only [List.length_cons, List.length_nil, Nat.zero_add]
      rw [splice2 xs k N a b hxl hk, List.take_of_length_le (by rw [put2_len, hxl]; exact Nat.le_refl _)]

theorem wp_append_in {o : Oper} {ac : Act} {K : Act → World → Prop} {Q : Exit → Act → World → Prop} (s x : Operand) (t tx : TypeId)
    (ho : o.op = .call { callee := .builtin .append, args := #[s, x], argTypes := #[t, tx] })
    (base : Nat) (e : TypeId) (i : TypeInfo) (ht : P.underlying t = some (.slice e)) (hi : P.info? e = some i) (hsize : i.size = 2)
    (g N k : Nat) (xs : List Value) (hs : ac.eval s = .slice (some ⟨g, 0, none⟩) k N) (hown : w.ownsRow base e 2 (.slice (some ⟨g, 0, none⟩) N N) N xs) (hk : k < N)
    (xv : Value) (a b : Value) (hx : ac.eval x = xv) (hsrc : Src P 2 tx xv 1 [a, b] w)
    (h : ∀ w', w'.ownsRow base e 2 (.slice (some ⟨g, 0, none⟩) N N) N (put2 xs k a b) → w.grownBy w' (some g) → K (ac.put o.dst (.slice (some ⟨g, 0, none⟩) (k + 1) N)) w') : o.wp P ac w K Q := by
  obtain ⟨w', hr, h2, h3⟩ := run_append_in (P := P) w base t tx o.type e i ht hi hsize g N k xs hown hk xv a b hsrc
  unfold Oper.wp execOp
  simp only [ho, resolve, invoke, builtin, Sem.run_bind, Sem.run_pure, Result.andThen_ok, List.map_toArray, List.map_cons, List.map_nil, hs, hx, hr]
  exact h w' h2 h3

theorem wpList_append_in {ops : Array Oper} {rest : List Oper} {o : Oper} {ac : Act} {Q : Exit → Act → World → Prop} (hgd : o.guard = none) (s x : Operand) (t tx : TypeId)
    (ho : o.op = .call { callee := .builtin .append, args := #[s, x], argTypes := #[t, tx] })
    (base : Nat) (e : TypeId) (i : TypeInfo) (ht : P.underlying t = some (.slice e)) (hi : P.info? e = some i) (hsize : i.size = 2)
    (g N k : Nat) (xs : List Value) (hs : ac.eval s = .slice (some ⟨g, 0, none⟩) k N) (hown : w.ownsRow base e 2 (.slice (some ⟨g, 0, none⟩) N N) N xs) (hk : k < N)
    (xv : Value) (a b : Value) (hx : ac.eval x = xv) (hsrc : Src P 2 tx xv 1 [a, b] w)
    (h : ∀ w', w'.ownsRow base e 2 (.slice (some ⟨g, 0, none⟩) N N) N (put2 xs k a b) → w.grownBy w' (some g) → wpList P ops Q rest (ac.put o.dst (.slice (some ⟨g, 0, none⟩) (k + 1) N)) w') : wpList P ops Q (o :: rest) ac w :=
  wpList_plain hgd fun _ hK => wp_append_in w s x t tx ho base e i ht hi hsize g N k xs hs hown hk xv a b hx hsrc fun w' h2 h3 => hK _ _ (h w' h2 h3)

theorem step_append_in {ops : Array Oper} {o : Oper} {ac : Act} {K : Act → World → Prop} {Q : Exit → Act → World → Prop} {E : Prop} (hgd : o.guard = none) (s x : Operand) (t tx : TypeId)
    (ho : o.op = .call { callee := .builtin .append, args := #[s, x], argTypes := #[t, tx] })
    (base : Nat) (e : TypeId) (i : TypeInfo) (ht : P.underlying t = some (.slice e)) (hi : P.info? e = some i) (hsize : i.size = 2)
    (g N k : Nat) (xs : List Value) (hs : ac.eval s = .slice (some ⟨g, 0, none⟩) k N) (hown : w.ownsRow base e 2 (.slice (some ⟨g, 0, none⟩) N N) N xs) (hk : k < N)
    (xv : Value) (a b : Value) (hx : ac.eval x = xv) (hsrc : Src P 2 tx xv 1 [a, b] w)
    (h : ∀ w', w'.ownsRow base e 2 (.slice (some ⟨g, 0, none⟩) N N) N (put2 xs k a b) → w.grownBy w' (some g) → K (ac.put o.dst (.slice (some ⟨g, 0, none⟩) (k + 1) N)) w') :
    if Region.wanted o (yielded ops ac.tmps) = true then Oper.wp P o ac w K Q else E := by
  have hw : Region.wanted o (yielded ops ac.tmps) = true := by simp [Region.wanted, hgd]
  rw [if_pos hw]
  exact wp_append_in w s x t tx ho base e i ht hi hsize g N k xs hs hown hk xv a b hx hsrc h

/-- A row made empty with room for N: told as a whole. -/
theorem owns_room {w : World} {base : Nat} {e : TypeId} {g N : Nat} (h : w.ownsRow base e 2 (.slice (some ⟨g, 0, none⟩) 0 N) 0 []) : ∃ xs, w.ownsRow base e 2 (.slice (some ⟨g, 0, none⟩) N N) N xs := by
  rcases h.2 with ⟨h', _⟩ | ⟨g', cap, cur, he, hbg, hg, hnc, hcm, hcs, htake⟩
  · cases h'
  · simp only [Value.slice.injEq, Option.some.injEq, Addr.mk.injEq, and_true, true_and] at he
    obtain ⟨rfl, rfl⟩ := he
    exact ⟨cur.toList, by rw [Array.length_toList, hcs], .inr ⟨g, N, cur, rfl, hbg, hg, Nat.le_refl _, hcm, hcs, List.take_of_length_le (by rw [Array.length_toList, hcs]; exact Nat.le_refl _)⟩⟩
end

/-! ### rows of ranges -/
def RowR (w : World) (a : Option Addr) (xs : List (Sl × Sl)) : Prop := ∀ k p, xs[k]? = some p → ∃ g o, a = some ⟨g, o, none⟩ ∧ w.cell? ⟨g, o + k * 2, none⟩ = some p.1.v ∧ w.cell? ⟨g, o + k * 2 + 1, none⟩ = some p.2.v
def AllAt (w : World) (xs : List (Sl × Sl)) : Prop := ∀ p ∈ xs, SlAt w p.1 ∧ SlAt w p.2
theorem RowR.below {w W : World} {a : Option Addr} {xs : List (Sl × Sl)} (h : RowR w a xs) (hb : Below w.heap.size w W) : RowR W a xs := fun k p hk => by
  obtain ⟨g, o, e, c1, c2⟩ := h k p hk
  have hg : g < w.heap.size := World.block_lt_of_cell? w _ c1
  exact ⟨g, o, e, (hb.cell (p := ⟨g, _, none⟩) hg).trans c1, (hb.cell (p := ⟨g, _, none⟩) hg).trans c2⟩
theorem AllAt.below {w W : World} {xs : List (Sl × Sl)} (h : AllAt w xs) (hb : Below w.heap.size w W) : AllAt W xs := fun p hp => ⟨(h p hp).1.below hb, (h p hp).2.below hb⟩

/-- A slice off the block g. -/
def Off (g : Nat) (s : Sl) : Prop := ∀ ad, s.a = some ad → ad.block ≠ g
theorem SlAt.kept {w W : World} {s : Sl} {row : Option Nat} (h : SlAt w s) (hg : w.grownBy W row) (hne : ∀ g, row = some g → Off g s) : SlAt W s := ⟨h.1, h.2.1, h.2.2.1, fun j b hj => by
  obtain ⟨g, o, e, q⟩ := h.2.2.2 j b hj
  have hlt : g < w.heap.size := World.block_lt_of_cell? w _ q
  refine ⟨g, o, e, ?_⟩
  have hb := hg.block g hlt (fun h' => hne g h'.symm _ e rfl)
  exact (World.cell?_of_block (a := ⟨g, o + j, Option.none⟩) hb).trans q⟩

/-- The row's cells hold the ranges: the first ys.length of them. -/
def Fill (zs : List Value) (ys : List (Sl × Sl)) : Prop := ∀ j p, ys[j]? = some p → zs[j * 2]? = some p.1.v ∧ zs[j * 2 + 1]? = some p.2.v
theorem fill_push {zs : List Value} {ys : List (Sl × Sl)} {N : Nat} {p : Sl × Sl} (hl : zs.length = N * 2) (hk : ys.length < N) (h : Fill zs ys) : Fill (put2 zs ys.length p.1.v p.2.v) (ys ++ [p]) := by
  intro j q hq
  unfold put2
  simp only [List.getElem?_set, List.length_set]
  by_cases hj : j < ys.length
  · rw [List.getElem?_append_left hj] at hq
    obtain ⟨a1, a2⟩ := h j q hq
    rw [if_neg (by omega), if_neg (by omega), if_neg (by omega), if_neg (by omega)]
    exact ⟨a1, a2⟩
  · rw [List.getElem?_append_right (by omega)] at hq
    have : j = ys.length := by
      rcases Nat.eq_or_lt_of_le (Nat.le_of_not_lt hj) with h' | h'
      · exact h'.symm
      · rw [List.getElem?_eq_none (by simp; omega)] at hq; cases hq
    subst this
    simp at hq
    subst hq
    rw [if_neg (by omega), if_pos rfl, if_pos (by omega), if_pos rfl, if_pos (by omega)]
    exact ⟨rfl, rfl⟩
theorem fill_row {w : World} {B g e N : Nat} {zs : List Value} {ys : List (Sl × Sl)} (h : w.ownsRow B e 2 (.slice (some ⟨g, 0, none⟩) N N) N zs) (hf : Fill zs ys) (hN : ys.length ≤ N) : RowR w (some ⟨g, 0, none⟩) ys := by
  intro k p hk
  have hlt : k < ys.length := by
    rcases Nat.lt_or_ge k ys.length with h | h
    · exact h
    · rw [List.getElem?_eq_none h] at hk; cases hk
  obtain ⟨a1, a2⟩ := hf k p hk
  refine ⟨g, 0, rfl, ?_, ?_⟩
  · rw [Nat.zero_add, h.cellAt _ (by omega)]; exact a1
  · rw [Nat.zero_add, h.cellAt _ (by omega)]; exact a2
end Go.Proofs.Qxb6600979a
