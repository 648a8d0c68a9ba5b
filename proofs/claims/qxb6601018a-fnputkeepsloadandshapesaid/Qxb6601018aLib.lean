import Derived.WalkKit
import Derived.WalkSpells
import Derived.WalkSmall
import Derived.Deep.AppendSrc
import Derived.Deep.AppendLies
import Derived.Maps.AppendAt
namespace Go.Proofs.Qxb6601018a
open Go Go.RowKit
set_option linter.unusedVariables false

/-! ### append onto an owned row, from whatever source -/
section
variable {P : Program} (w : World)

theorem run_append_src (base : Nat) (t tx ty e : TypeId) (i : TypeInfo) (z : Value) (size bytes : Nat) (ht : P.underlying t = some (.slice e)) (hi : P.info? e = some i) (hz : i.zero = some z)
    (hsize : i.size = size) (hby : i.bytes = bytes) (hzs : z.cells.size = size) (hsz : 0 < size)
    (v : Value) (n : Nat) (xs : List Value) (hown : w.ownsRow base e size v n xs)
    (x : Value) (m : Nat) (news : List Value) (hs : Src P size tx x m news w)
    (h63 : n + m ≤ maxLen) (hbytes : (n + m) * bytes ≤ 140737488355328) (hbase : base ≤ w.heap.size) :
    ∃ v' w', (Builtin.append_ #[t, tx] ty #[v, x]).run P w = .ok v' w' ∧ w'.ownsRow base e size v' (n + m) (xs ++ news) ∧ w.grownBy w' v.ownBlock ∧
      (v'.ownBlock = v.ownBlock ∨ v'.ownBlock = some w.heap.size) := by
  subst hsize
  subst hby
  have hl := hs.newsLen
  have hsmall : n + m ≤ 9223372036854775807 := by simp only [maxLen] at h63; omega
  have hlen : (xs ++ news).length = (n + m) * i.size := by rw [List.length_append, hown.1, hl, Nat.add_mul]
  have grown : ∀ (old : Nat), old < n + m → ∀ (row : Option Nat),
      (w.drew.alloc (.cells ((xs ++ news).toArray ++ Builtin.zeroCells z.cells (grownCap w (n + m) old e - (n + m))) e)).ownsRow base e i.size
        (.slice (some ⟨w.heap.size, 0, none⟩) (n + m) (grownCap w (n + m) old e)) (n + m) (xs ++ news) ∧
      w.grownBy (w.drew.alloc (.cells ((xs ++ news).toArray ++ Builtin.zeroCells z.cells (grownCap w (n + m) old e - (n + m))) e)) row := by
    intro old ho row
    have hge := grownCap_ge w (n + m) old e
    have hcm : grownCap w (n + m) old e ≤ maxLen := grownCap_le_maxLen w (n + m) old e h63
    refine ⟨⟨hlen, .inr ⟨w.heap.size, _, _, rfl, hbase, heap_alloc_new w.drew _, hge, hcm, ?_, ?_⟩⟩, ⟨rfl, rfl, rfl, by simp, fun k hk _ => Below.heap_alloc w.drew _ k hk⟩⟩
    · simp only [Array.size_append, List.size_toArray, size_zeroCells, hzs, hlen, ← Nat.add_mul]
      congr 1
      omega
    · simp only [Array.toList_append]
      rw [← hlen]
      exact List.take_left
  rcases hown.2 with ⟨rfl, rfl⟩ | ⟨g, cap, cur, rfl, hbg, hg, hnc, hcm, hcs, htake⟩
  · have hx : xs = [] := List.eq_nil_of_length_eq_zero (by simpa using hown.1)
    subst hx
    by_cases hm : m = 0
    · subst hm
      have hn : news = [] := List.eq_nil_of_length_eq_zero (by simpa using hl)
      subst hn
      refine ⟨.slice none 0 0, w, ?_, World.ownsRow_nil w base e i.size, ⟨rfl, rfl, rfl, Nat.le_refl _, fun _ _ _ => rfl⟩, Or.inl rfl⟩
      rcases hs.kind with ⟨e', hk⟩ | hk <;> simp [Builtin.append_, run_underlying ht, run_underlying hk, sizeOf, typeInfo, hi, hs.len, hs.cells]
    · have hr := run_append_grow_src (P := P) w t tx ty e i z ht hi hz none 0 0 [] (by simp [Builtin.firstCells]) x m news hs (by omega) (by omega) (growslice_fits (by omega) hbytes)
      have hgr := grown 0 (by omega) (Value.ownBlock (.slice none 0 0))
      exact ⟨_, _, hr, hgr.1, hgr.2, Or.inr rfl⟩
  · by_cases hroom : n + m ≤ cap
    · have hfit : n * i.size + news.length ≤ cur.size := by rw [hl, hcs, ← Nat.add_mul]; exact Nat.mul_le_mul_right _ hroom
      have hst := run_storeCells_at P g (n * i.size) e news 0 cur w hg (by simpa using hfit) hs.one
      simp only [Nat.add_zero] at hst
      have hr : (Builtin.append_ #[t, tx] ty #[.slice (some ⟨g, 0, none⟩) n cap, x]).run P w =
          .ok (.slice (some ⟨g, 0, none⟩) (n + m) cap) (w.setRow g (cur.toList.take (n * i.size) ++ news ++ cur.toList.drop (n * i.size + news.length)).toArray) := by
        rcases hs.kind with ⟨e', hk⟩ | hk <;> simp [Builtin.append_, run_underlying ht, run_underlying hk, sizeOf, typeInfo, hi, hs.len, hroom, hs.cells, Addr.add_lit, hst]
      refine ⟨_, _, hr, ⟨hlen, .inr ⟨g, cap, _, rfl, hbg, setRow_heap w g cur _ e _ hg, hroom, hcm, ?_, ?_⟩⟩, ⟨rfl, rfl, rfl, by simp, fun k _ hk => setRow_other w g k _ (fun e => hk (by simp [Value.ownBlock, e]))⟩, Or.inl rfl⟩
      · simp only [List.size_toArray, List.length_append, List.length_take, List.length_drop, Array.length_toList]
        omega
      · rw [htake, ← hlen]
        exact List.take_left
    · have holds : ∀ j u, xs[j]? = some u → w.drew.cell? ((⟨g, 0, none⟩ : Addr).add j) = some u := by
        have := hown.cells (g := g) rfl
        simpa using this
      have hr := run_append_grow_src (P := P) w t tx ty e i z ht hi hz (some ⟨g, 0, none⟩) n cap xs (run_firstCells_some w.drew i.size n ⟨g, 0, none⟩ n cap xs hown.1 holds) x m news hs (by omega) (by omega) (growslice_fits (by omega) hbytes)
      have hgr := grown cap (by omega) (Value.ownBlock (.slice (some ⟨g, 0, none⟩) n cap))
      exact ⟨_, _, hr, hgr.1, hgr.2, Or.inr rfl⟩

theorem wp_append_src {o : Oper} {a : Act} {K : Act → World → Prop} {Q : Exit → Act → World → Prop} (s x : Operand) (t tx : TypeId)
    (ho : o.op = .call { callee := .builtin .append, args := #[s, x], argTypes := #[t, tx] })
    (base : Nat) (e : TypeId) (i : TypeInfo) (z : Value) (size bytes : Nat) (ht : P.underlying t = some (.slice e)) (hi : P.info? e = some i) (hz : i.zero = some z)
    (hsize : i.size = size) (hby : i.bytes = bytes) (hzs : z.cells.size = size) (hsz : 0 < size)
    (v : Value) (n : Nat) (xs : List Value) (hs : a.eval s = v) (hown : w.ownsRow base e size v n xs)
    (xv : Value) (m : Nat) (news : List Value) (hx : a.eval x = xv) (hsrc : Src P size tx xv m news w)
    (h63 : n + m ≤ maxLen) (hbytes : (n + m) * bytes ≤ 140737488355328) (hbase : base ≤ w.heap.size)
    (h : ∀ v' w', w'.ownsRow base e size v' (n + m) (xs ++ news) → w.grownBy w' v.ownBlock → (v'.ownBlock = v.ownBlock ∨ v'.ownBlock = some w.heap.size) → K (a.put o.dst v') w') : o.wp P a w K Q := by
  obtain ⟨v', w', hr, h2, h3, h4⟩ := run_append_src (P := P) w base t tx o.type e i z size bytes ht hi hz hsize hby hzs hsz v n xs hown xv m news hsrc h63 hbytes hbase
  unfold Oper.wp execOp
  simp only [ho, resolve, invoke, builtin, Sem.run_bind, Sem.run_pure, Result.andThen_ok, List.map_toArray, List.map_cons, List.map_nil, hs, hx, hr]
  exact h v' w' h2 h3 h4

theorem wpList_append_src {ops : Array Oper} {rest : List Oper} {o : Oper} {a : Act} {Q : Exit → Act → World → Prop} (hgd : o.guard = none) (s x : Operand) (t tx : TypeId)
    (ho : o.op = .call { callee := .builtin .append, args := #[s, x], argTypes := #[t, tx] })
    (base : Nat) (e : TypeId) (i : TypeInfo) (z : Value) (size bytes : Nat) (ht : P.underlying t = some (.slice e)) (hi : P.info? e = some i) (hz : i.zero = some z)
    (hsize : i.size = size) (hby : i.bytes = bytes) (hzs : z.cells.size = size) (hsz : 0 < size)
    (v : Value) (n : Nat) (xs : List Value) (hs : a.eval s = v) (hown : w.ownsRow base e size v n xs)
    (xv : Value) (m : Nat) (news : List Value) (hx : a.eval x = xv) (hsrc : Src P size tx xv m news w)
    (h63 : n + m ≤ maxLen) (hbytes : (n + m) * bytes ≤ 140737488355328) (hbase : base ≤ w.heap.size)
    (h : ∀ v' w', w'.ownsRow base e size v' (n + m) (xs ++ news) → w.grownBy w' v.ownBlock → (v'.ownBlock = v.ownBlock ∨ v'.ownBlock = some w.heap.size) → wpList P ops Q rest (a.put o.dst v') w') : wpList P ops Q (o :: rest) a w :=
  wpList_plain hgd fun _ hK => wp_append_src w s x t tx ho base e i z size bytes ht hi hz hsize hby hzs hsz v n xs hs hown xv m news hx hsrc h63 hbytes hbase fun v' w' h2 h3 h4 => hK _ _ (h v' w' h2 h3 h4)

theorem step_append_src {ops : Array Oper} {o : Oper} {a : Act} {K : Act → World → Prop} {Q : Exit → Act → World → Prop} {E : Prop} (hgd : o.guard = none) (s x : Operand) (t tx : TypeId)
    (ho : o.op = .call { callee := .builtin .append, args := #[s, x], argTypes := #[t, tx] })
    (base : Nat) (e : TypeId) (i : TypeInfo) (z : Value) (size bytes : Nat) (ht : P.underlying t = some (.slice e)) (hi : P.info? e = some i) (hz : i.zero = some z)
    (hsize : i.size = size) (hby : i.bytes = bytes) (hzs : z.cells.size = size) (hsz : 0 < size)
    (v : Value) (n : Nat) (xs : List Value) (hs : a.eval s = v) (hown : w.ownsRow base e size v n xs)
    (xv : Value) (m : Nat) (news : List Value) (hx : a.eval x = xv) (hsrc : Src P size tx xv m news w)
    (h63 : n + m ≤ maxLen) (hbytes : (n + m) * bytes ≤ 140737488355328) (hbase : base ≤ w.heap.size)
    (h : ∀ v' w', w'.ownsRow base e size v' (n + m) (xs ++ news) → w.grownBy w' v.ownBlock → (v'.ownBlock = v.ownBlock ∨ v'.ownBlock = some w.heap.size) → K (a.put o.dst v') w') :
    if Region.wanted o (yielded ops a.tmps) = true then Oper.wp P o a w K Q else E := by
  have hw : Region.wanted o (yielded ops a.tmps) = true := by simp [Region.wanted, hgd]
  rw [if_pos hw]
  exact wp_append_src w s x t tx ho base e i z size bytes ht hi hz hsize hby hzs hsz v n xs hs hown xv m news hx hsrc h63 hbytes hbase h
end

/-! ### owned rows behind later worlds -/
theorem owns_below {w w' : World} {base B : Nat} {e : TypeId} {size : Nat} {v : Value} {n : Nat} {xs : List Value} (h : w.ownsRow base e size v n xs)
    (hb : Below B w w') (hlt : ∀ k, v.ownBlock = some k → k < B) : w'.ownsRow base e size v n xs := by
  refine ⟨h.1, ?_⟩
  rcases h.2 with hn | ⟨g, cap, cur, rfl, hbg, hgg, rest⟩
  · exact .inl hn
  · exact .inr ⟨g, cap, cur, rfl, hbg, by rw [hb.block g (hlt g rfl)]; exact hgg, rest⟩

theorem owns_base {w : World} {base base' : Nat} {e : TypeId} {size : Nat} {v : Value} {n : Nat} {xs : List Value} (h : w.ownsRow base e size v n xs) (hb : base' ≤ base) : w.ownsRow base' e size v n xs := by
  refine ⟨h.1, ?_⟩
  rcases h.2 with hn | ⟨g, cap, cur, rfl, hbg, hgg, rest⟩
  · exact .inl hn
  · exact .inr ⟨g, cap, cur, rfl, by omega, hgg, rest⟩

theorem grown_below {w w' : World} {row : Option Nat} {B : Nat} (hg : w.grownBy w' row) (hB : B ≤ w.heap.size) (hr : ∀ k, row = some k → B ≤ k) : Below B w w' :=
  (Below.refl B w).grown hg hB hr

/-- Two owned rows of different element types lie in different blocks. -/
theorem owns_apart {w : World} {b1 b2 : Nat} {e1 e2 : TypeId} {z1 z2 : Nat} {v1 v2 : Value} {n1 n2 : Nat} {x1 x2 : List Value} (h1 : w.ownsRow b1 e1 z1 v1 n1 x1) (h2 : w.ownsRow b2 e2 z2 v2 n2 x2) (hne : e1 ≠ e2) :
    v1.ownBlock = none ∨ v1.ownBlock ≠ v2.ownBlock := by
  rcases h1.2 with ⟨rfl, _⟩ | ⟨g, cap, cur, rfl, _, hg, _⟩
  · exact .inl rfl
  · right
    rcases h2.2 with ⟨rfl, _⟩ | ⟨g', cap', cur', rfl, _, hg', _⟩
    · simp [Value.ownBlock]
    · intro h
      simp [Value.ownBlock] at h
      subst h
      rw [hg] at hg'
      simp at hg'
      exact hne hg'.2

end Go.Proofs.Qxb6601018a
