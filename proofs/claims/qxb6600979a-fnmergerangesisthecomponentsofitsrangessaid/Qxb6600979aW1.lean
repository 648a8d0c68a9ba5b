import Derived.Test.Qxb6600979aRows
import Derived.Test.Qxb6600979aLib
import Derived.Deep.QuietTactic
import Derived.BigQuiet
import Derived.Deep.RegionHeld3
import Derived.BigRegion
import Derived.Deep.Light
import Derived.Laws.Rows
import Derived.Laws.Cover3
import Derived.WalkLawsBesides
import Derived.Laws.ResultCell
import Derived.Deep.MidRow
import Derived.Lib.Bytealg
namespace Go.Proofs.Qxb6600979a
open Go.RowKit
set_option linter.unusedVariables false

/-- A byte slice: where it lies and what it holds. -/
structure Sl where
  a : Option Addr
  n : Nat
  c : Nat
  l : List UInt8

def Sl.v (s : Sl) : Value := .slice s.a s.n s.c
def nilS : Sl := ⟨none, 0, 0, []⟩
/-- An upper bound: none where the slice is nil. -/
def Sl.pb (s : Sl) : Option (List UInt8) := if s.a.isNone then none else some s.l

def SlAt (w : World) (s : Sl) : Prop := s.l.length = s.n ∧ s.n ≤ 1048576 ∧ (s.a = none → s.c = 0) ∧ ∀ j b, s.l[j]? = some b → ∃ g o, s.a = some ⟨g, o, none⟩ ∧ w.cell? ⟨g, o + j, none⟩ = some (.int .u8 (b.toNat : Int))

theorem SlAt.nil (w : World) : SlAt w nilS := ⟨rfl, by decide, fun _ => rfl, fun j b h => by simp [nilS] at h⟩
theorem SlAt.cellsB {w : World} {s : Sl} {B : Nat} (h : SlAt w s) {W : World} (hb : Below B w W) (hB : ∀ g o, s.a = some ⟨g, o, none⟩ → 0 < s.n → g < B) : SlAt W s := ⟨h.1, h.2.1, h.2.2.1, fun j b hj => by
  obtain ⟨g, o, e, q⟩ := h.2.2.2 j b hj
  have hn : 0 < s.n := by
    have : j < s.l.length := by
      rcases Nat.lt_or_ge j s.l.length with h' | h'
      · exact h'
      · rw [List.getElem?_eq_none h'] at hj; cases hj
    have := h.1
    omega
  exact ⟨g, o, e, (hb.cell (p := ⟨g, o + j, none⟩) (hB g o e hn)).trans q⟩⟩
theorem SlAt.lt {w : World} {s : Sl} (h : SlAt w s) (g o : Nat) (e : s.a = some ⟨g, o, none⟩) (hn : 0 < s.n) : g < w.heap.size := by
  obtain ⟨b, hb⟩ : ∃ b, s.l[0]? = some b := ⟨s.l[0]'(by rw [h.1]; exact hn), by simp⟩
  obtain ⟨g', o', e', q⟩ := h.2.2.2 0 b hb
  rw [e] at e'
  cases e'
  exact World.block_lt_of_cell? w _ q
theorem SlAt.below {w W : World} {s : Sl} (h : SlAt w s) (hb : Below w.heap.size w W) : SlAt W s := h.cellsB hb h.lt

theorem below_drewN {B : Nat} {a w : World} (h : Below B a w) (n : Nat) : Below B a (w.drewN n) := ⟨h.os, h.tape, h.output, h.size, h.block⟩
theorem drewN_add (w : World) (a b : Nat) : (w.drewN a).drewN b = w.drewN (a + b) := by simp [World.drewN, Nat.add_assoc]
theorem SlAt.drewN {w : World} {s : Sl} (h : SlAt w s) (n : Nat) : SlAt (w.drewN n) s := h

theorem add_succ_sl (a : Addr) (j : Nat) : (a.add 1).add j = a.add (j + 1) := by
  unfold Addr.add
  by_cases hj : j = 0
  · subst hj; simp
  · simp [hj]; omega
theorem loadBytes_sl {P : Program} {w : World} : ∀ (l : List UInt8) (a : Addr) (acc : ByteArray), (∀ j b, l[j]? = some b → w.cell? (a.add j) = some (.int .u8 (b.toNat : Int))) →
    (Extern.Bytes.loadBytes a l.length acc).run P w = .ok ⟨acc.data ++ l.toArray⟩ w
  | [], a, acc, _ => by simp [Extern.Bytes.loadBytes]
  | x :: l, a, acc, h => by
    have h0 : w.cell? a = some (.int .u8 (x.toNat : Int)) := by
      have := h 0 x rfl
      simpa [Addr.add] using this
    have ih := loadBytes_sl (P := P) l (a.add 1) (acc.push (x.toNat : Int).toNat.toUInt8) (fun j y hy => by rw [add_succ_sl]; exact h (j + 1) y (by simpa using hy))
    simp only [List.length_cons, Extern.Bytes.loadBytes, Sem.run_bind, run_load, h0, Result.andThen]
    rw [ih]
    congr 1
    apply ByteArray.ext
    simp [ByteArray.push]

theorem bytesOf_sl {P : Program} {w : World} {s : Sl} (h : SlAt w s) : (Extern.Bytes.bytesOf s.v).run P w = .ok ⟨s.l.toArray⟩ w := by
  obtain ⟨a, n, c, l⟩ := s
  obtain ⟨h1, h2, h3, h4⟩ := h
  simp only at h1 h2 h3 h4
  unfold Sl.v
  cases a with
  | none =>
    have : l = [] := by
      cases l with
      | nil => rfl
      | cons b r => obtain ⟨g, o, e, _⟩ := h4 0 b rfl; cases e
    subst this
    rfl
  | some a =>
    have := loadBytes_sl (P := P) (w := w) l a .empty (fun j b hj => by
      obtain ⟨g, o, e, q⟩ := h4 j b hj
      cases e
      rw [Addr.add_mid]
      exact q)
    rw [h1] at this
    simp only [Extern.Bytes.bytesOf]
    rw [this]
    congr 1
    apply ByteArray.ext
    show #[] ++ l.toArray = l.toArray
    simp

abbrev cb (x y : List UInt8) : Int := Lib.compareBytes x y

theorem run_compare_sl {P : Program} {w : World} {x y : Sl} (hx : SlAt w x) (hy : SlAt w y) : (Extern.BytealgCompare.compare #[x.v, y.v]).run P w = .ok (.int .i64 (cb x.l y.l)) w := by
  change Sem.run P (do pure (goInt (Extern.BytealgCompare.cmp (← Extern.Bytes.bytesOf x.v) (← Extern.Bytes.bytesOf y.v)))) w = _
  simp only [bytesOf_sl hx, bytesOf_sl hy, Sem.run_bind, Sem.run_pure, Result.andThen]
  rw [Lib.cmp_eq]
  rfl

set_option maxHeartbeats 1000000 in
theorem cmp34 (x y : Sl) (w : World) (hx : SlAt w x) (hy : SlAt w y) : Calls Try.prog 34 #[x.v, y.v] w fun e w' => e = .returned (.int .i64 (cb x.l y.l)) ∧ w' = w := by
  have hrun := run_compare_sl (P := Try.prog) hx hy
  go_enter Try.func34, Try.ntmps34
  go_wp2
  rw [run_callFunc_extern Try.func39 (by kernel_rfl) (by kernel_rfl) (by kernel_rfl) (e := Extern.BytealgCompare.compare) (by kernel_rfl), hrun]
  simp only [Result.andThen]
  rw [Oper.upon_value]
  go_wp2
  go_ret
  exact ⟨rfl, rfl⟩

/-- 's == nil' of a slice. -/
@[go_sem] theorem eql_slice_nil {P : Program} (w : World) (t e : TypeId) (a : Option Addr) (l c : Nat) (h : P.underlying t = some (.slice e)) : (binOp .eql t (.slice a l c) (.slice none 0 0)).run P w = .ok (.bool a.isNone) w := by
  simp only [binOp]
  simp [run_equal_slice_nil w t e a l c h]

/-- Is the first upper bound below the second (none: no bound)? -/
def eb : Option (List UInt8) → Option (List UInt8) → Bool
  | none, _ => false
  | some _, none => true
  | some x, some y => decide (cb x y < 0)

theorem SlAt.none {w : World} {n c : Nat} {l : List UInt8} (h : SlAt w ⟨none, n, c, l⟩) : (⟨Option.none, n, c, l⟩ : Sl) = nilS := by
  obtain ⟨h1, h2, h3, h4⟩ := h
  have hl : l = [] := by
    cases l with
    | nil => rfl
    | cons b r => obtain ⟨g, o, e, _⟩ := h4 0 b rfl; cases e
  subst hl
  simp only [List.length_nil] at h1
  have := h3 rfl
  simp only at this
  subst this h1
  rfl

set_option maxHeartbeats 1000000 in
theorem ends40 (x y : Sl) (w : World) (hx : SlAt w x) (hy : SlAt w y) : Calls Try.prog 40 #[x.v, y.v] w fun e w' => e = .returned (.bool (eb x.pb y.pb)) ∧ w' = w := by
  have hcmp := cmp34 x y w hx hy
  obtain ⟨xa, xn, xc, xl⟩ := x
  obtain ⟨ya, yn, yc, yl⟩ := y
  cases xa with
  | none =>
    rw [hx.none]
    unfold nilS Sl.v
    go_enter Try.func40, Try.ntmps40
    go_wp2
    go_ret
    exact ⟨rfl, rfl⟩
  | some xa =>
    cases ya with
    | none =>
      rw [hy.none] at hcmp ⊢
      unfold nilS Sl.v
      go_enter Try.func40, Try.ntmps40
      go_wp2
      go_ret
      exact ⟨rfl, rfl⟩
    | some ya =>
      unfold Sl.v at hcmp ⊢
      simp only at hcmp ⊢
      obtain ⟨r, hr⟩ : ∃ r, r = cb xl yl := ⟨_, rfl⟩
      simp only [Sl.pb, Option.isNone_some, Bool.false_eq_true, if_false, eb, ← hr] at hcmp ⊢
      clear hr
      go_enter Try.func40, Try.ntmps40
      go_wp2_with (first | (go_at_call 34; refine hcmp.mono ?_; rintro e w' ⟨rfl, rfl⟩))
      go_ret
      exact ⟨rfl, rfl⟩

set_option maxHeartbeats 1000000 in
theorem later36 (x y : Sl) (w : World) (hx : SlAt w x) (hy : SlAt w y) : Calls Try.prog 36 #[x.v, y.v] w fun e w' => e = .returned (if eb x.pb y.pb = true then y else x).v ∧ w' = w := by
  have hcmp := ends40 x y w hx hy
  generalize eb x.pb y.pb = r at hcmp ⊢
  cases r
  · simp only [Bool.false_eq_true, if_false]
    go_enter Try.func36, Try.ntmps36
    go_wp2_with (first | (go_at_call 40; refine hcmp.mono ?_; rintro e w' ⟨rfl, rfl⟩))
    go_ret
    exact ⟨rfl, rfl⟩
  · simp only [if_true]
    go_enter Try.func36, Try.ntmps36
    go_wp2_with (first | (go_at_call 40; refine hcmp.mono ?_; rintro e w' ⟨rfl, rfl⟩))
    go_ret
    exact ⟨rfl, rfl⟩

def rv (p : Sl × Sl) : Value := .agg #[p.1.v, p.2.v]

set_option maxHeartbeats 1000000 in
theorem from14 (p : Sl × Sl) (w : World) : Calls Try.prog 14 #[rv p] w fun e w' => e = .returned p.1.v ∧ ∃ o, w' = w.alloc o := by
  unfold rv Sl.v
  go_enter Try.func14, Try.ntmps14
  go_wp2
  go_ret
  exact ⟨rfl, _, rfl⟩
set_option maxHeartbeats 1000000 in
theorem to15 (p : Sl × Sl) (w : World) : Calls Try.prog 15 #[rv p] w fun e w' => e = .returned p.2.v ∧ ∃ o, w' = w.alloc o := by
  unfold rv Sl.v
  go_enter Try.func15, Try.ntmps15
  go_wp2
  go_ret
  exact ⟨rfl, _, rfl⟩

theorem Try.size32 : (Try.prog.info? 32).map (·.size) = some 2 := by kernel_rfl
set_option maxHeartbeats 1000000 in
theorem make26 (x y : Sl) (w : World) : Calls Try.prog 26 #[x.v, y.v] w fun e w' => e = .returned (rv (x, y)) ∧ ∃ o, w' = w.alloc o := by
  unfold rv Sl.v
  go_enter Try.func26, Try.ntmps26
  go_wp2
  (try simp only [Exit.inBlock, Exit.then])
  refine bodyPost_ret (results_cell_row rfl _ _ w.heap.size 32 _ _ _ rfl (heap_alloc_new _ _) Try.underlying32 rfl Try.size32) rfl ?_
  exact ⟨rfl, _, rfl⟩

set_option maxHeartbeats 1000000 in
/-- The comparison that the sort is handed. -/
theorem clos33 (p q : Sl × Sl) (w : World) (hp : SlAt w p.1) (hq : SlAt w q.1) : Calls Try.prog 33 #[rv p, rv q] w fun e w' => e = .returned (.int .i64 (cb p.1.l q.1.l)) ∧ ∃ o1 o2, w' = (w.alloc o1).alloc o2 := by
  have hcmp : ∀ o1 o2, Calls Try.prog 34 #[p.1.v, q.1.v] ((w.alloc o1).alloc o2) fun e w' => e = .returned (.int .i64 (cb p.1.l q.1.l)) ∧ w' = (w.alloc o1).alloc o2 := fun o1 o2 =>
    cmp34 p.1 q.1 _ (hp.below (((Below.refl _ _).alloc (Nat.le_refl _) _).alloc (by simp) _)) (hq.below (((Below.refl _ _).alloc (Nat.le_refl _) _).alloc (by simp) _))
  generalize cb p.1.l q.1.l = r at hcmp ⊢
  unfold rv Sl.v at *
  go_enter Try.func33, Try.ntmps33
  go_wp2_with (first | (go_at_call 34; refine (hcmp _ _).mono ?_; rintro e w' ⟨rfl, rfl⟩))
  go_ret
  exact ⟨rfl, _, _, rfl⟩
end Go.Proofs.Qxb6600979a
