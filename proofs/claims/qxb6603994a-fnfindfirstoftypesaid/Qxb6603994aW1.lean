import Derived.Test.Qxb6603994aRows
import Derived.Test.Qxb6603994aLib
import Derived.Deep.QuietTactic
import Derived.BigQuiet
import Derived.Deep.RegionHeld3
import Derived.BigRegion
import Derived.Deep.Light
import Derived.Laws.Rows
import Derived.Laws.ResultCell
namespace Go.Proofs.Qxb6603994a
open Go.RowKit
set_option linter.unusedVariables false

theorem Try.info27 : (Try.prog.info? 27).map (fun i => (i.zero, i.size, i.bytes)) = some (some (.agg #[.int .u8 0, .int .u8 0, .int .u8 0, .int .u8 0, .int .i64 0, .int .i64 0, .int .i64 0]), 7, 32) := by kernel_rfl
theorem Try.info24 : (Try.prog.info? 24).map (fun i => (i.zero, i.size, i.bytes)) = some (some (.agg #[.int .u8 0, .int .u8 0, .int .u8 0, .int .u8 0]), 4, 4) := by kernel_rfl

/-- Some bool is returned. -/
def BoolR (e : Ending) : Prop := ∃ b : Bool, e = .returned (.bool b)

theorem Try.size27 : (Try.prog.info? 27).map (·.size) = some 7 := by kernel_rfl

set_option maxHeartbeats 400000 in
theorem bytes7 (a : Option Addr) (n c : Nat) (s : ByteArray) (w : World) (h1 : n ≤ maxLen) (h2 : s.size ≤ maxLen) :
    Calls Try.prog 7 #[.slice a n c, .string s] w fun e w' => BoolR e ∧ w' = w := by
  unfold maxLen at *
  go_enter Try.func7, Try.ntmps7
  go_wp2
  · go_ret
    exact ⟨⟨_, rfl⟩, rfl⟩
  go_loopw [5, 6] (fun z i wr => ∃ (k : Nat) (q : Int), k ≤ n ∧ i = .int .i64 k ∧ z = .int .i64 q ∧ 0 ≤ q ∧ q ≤ 1048576 ∧ wr = w) (fun z i _ => n - (intOf i).toNat)
  case atStart => exact ⟨0, n, by omega, rfl, rfl, by omega, by omega, rfl⟩
  case round =>
    obtain ⟨k, q, hk, rfl, rfl, hq0, hq1, rfl⟩ := hrel
    by_cases hlt : k < n
    · have ik : (k : Int) < n := by omega
      go_wp2
      · go_ret
        exact ⟨⟨_, rfl⟩, rfl⟩
      · go_roundw
        case rel => exact ⟨k + 1, q + 4, by omega, by go_num, by go_num, by omega, by omega, by trivial⟩
        case measure => go_light; simp only [intOf]; omega
    · have ik : ¬ (k : Int) < n := by omega
      go_wp2
      all_goals go_ret
      all_goals exact ⟨⟨_, rfl⟩, rfl⟩

set_option maxHeartbeats 400000 in
theorem make10 (t0 t1 t2 t3 s b e : Int) (w : World) :
    Calls Try.prog 10 #[.agg #[.int .u8 t0, .int .u8 t1, .int .u8 t2, .int .u8 t3], .int .i64 s, .int .i64 b, .int .i64 e] w fun x w' =>
      x = .returned (.agg #[.int .u8 t0, .int .u8 t1, .int .u8 t2, .int .u8 t3, .int .i64 s, .int .i64 b, .int .i64 e]) ∧ ∃ o1 o2, w' = (w.alloc o1).alloc o2 := by
  go_enter Try.func10, Try.ntmps10
  go_wp2
  (try simp only [Exit.inBlock, Exit.then])
  refine bodyPost_ret (results_cell_row rfl _ _ (w.heap.size + 1) 27 _ _ _ rfl (heap_alloc2_new _ _ _) Try.underlying27 rfl Try.size27) rfl ?_
  exact ⟨rfl, _, _, rfl⟩

/-- The four bytes are the string. -/
def sl (s : ByteArray) : List Int := s.data.toList.map fun x => (x.toNat : Int)
def isT (t0 t1 t2 t3 : Int) (s : ByteArray) : Bool := decide (sl s = [t0, t1, t2, t3])
theorem sl_length (s : ByteArray) : (sl s).length = s.size := by simp [sl]
theorem sl_at (s : ByteArray) (k : Nat) (h : k < s.size) : ((s[k]'h).toNat : Int) = (sl s).getD k 0 := by
  have h' : k < s.data.size := h
  simp only [sl, List.getD_eq_getElem?_getD, List.getElem?_map, Array.getElem?_toList, Array.getElem?_eq_getElem h', Option.map_some, Option.getD_some]
  rfl
theorem below_drewN {B : Nat} {a w : World} (h : Below B a w) (n : Nat) : Below B a (w.drewN n) := ⟨h.os, h.tape, h.output, h.size, h.block⟩
theorem getD_four {x y : List Int} (hx : x.length = 4) (hy : y.length = 4) (h : ∀ j, j < 4 → x.getD j 0 = y.getD j 0) : x = y := by
  match x, y, hx, hy with
  | [a, b, c, d], [e, f, g, i], _, _ =>
    have h0 := h 0 (by omega)
    have h1 := h 1 (by omega)
    have h2 := h 2 (by omega)
    have h3 := h 3 (by omega)
    simp at h0 h1 h2 h3
    rw [h0, h1, h2, h3]


theorem drewN_add (w : World) (a b : Nat) : (w.drewN a).drewN b = w.drewN (a + b) := by simp [World.drewN, Nat.add_assoc]

set_option maxHeartbeats 1600000 in
theorem type11 (t0 t1 t2 t3 : Int) (s : ByteArray) (w : World) (hs : s.size ≤ 1048576) :
    Calls Try.prog 11 #[.agg #[.int .u8 t0, .int .u8 t1, .int .u8 t2, .int .u8 t3], .string s] w fun x w' =>
      x = .returned (.bool (isT t0 t1 t2 t3 s)) ∧ Below w.heap.size w w' := by
  by_cases h4 : s.size = 4
  · go_enter Try.func11, Try.ntmps11
    go_wp2
    obtain ⟨W, hW⟩ : ∃ W, W = w.alloc (Obj.cells #[Value.int .u8 t0, Value.int .u8 t1, Value.int .u8 t2, Value.int .u8 t3] 24) := ⟨_, rfl⟩
    have HB : Hid (Below w.heap.size w W) := by rw [hW]; exact (Below.refl _ _).alloc (Nat.le_refl _) _
    have HC : Hid (∀ k, k < 4 → W.cell? ⟨w.heap.size, k, none⟩ = some (.int .u8 ([t0, t1, t2, t3].getD k 0))) := by
      rw [hW]
      intro k hk
      have : k = 0 ∨ k = 1 ∨ k = 2 ∨ k = 3 := by omega
      rcases this with rfl | rfl | rfl | rfl <;> simp [go_sem]
    rw [← hW]
    clear hW
    go_loopw [5] (fun i wr => ∃ (k n : Nat), k ≤ 4 ∧ i = .int .i64 k ∧ Hid (∀ j, j < k → [t0, t1, t2, t3].getD j 0 = (sl s).getD j 0) ∧ wr = W.drewN n) (fun i _ => 4 - (intOf i).toNat)
    case atStart => exact ⟨0, 0, by omega, rfl, fun j h => by omega, rfl⟩
    case round =>
      obtain ⟨k, nd, hk, rfl, HP, rfl⟩ := hrel
      by_cases hlt : k < 4
      · have c := HC.out k hlt
        obtain ⟨x, hx⟩ : ∃ x, x = [t0, t1, t2, t3].getD k 0 := ⟨_, rfl⟩
        rw [← hx] at c
        have HX : Hid (x = [t0, t1, t2, t3].getD k 0) := hx
        clear hx
        have ik : (k : Int) < 4 := by omega
        have iks : (k : Int) < s.size := by omega
        have hsk := sl_at s k (by omega)
        have HS : Hid (((s[k]'(by omega)).toNat : Int) = (sl s).getD k 0) := hsk
        clear hsk
        go_wp2
        go_quiet (fail)
        go_wp2
        · rename_i hne
          go_ret
          refine ⟨?_, below_drewN (below_drewN HB.out _) _⟩
          have : isT t0 t1 t2 t3 s = false := by
            unfold isT
            refine decide_eq_false fun h => ?_
            have h1 := HS.out
            rw [h, ← HX.out] at h1
            rw [h1] at hne
            simp at hne
          rw [this]
          rfl
        · rename_i heq
          go_roundw
          case rel => exact ⟨k + 1, nd + nq, by omega, by go_num, fun j h => by
            by_cases hj : j < k
            · exact HP.out j hj
            · obtain rfl : j = k := by omega
              have this := bne_eq_false_iff_eq.mp heq
              rw [← HX.out, this, HS.out], rfl⟩
          case measure => go_light; simp only [intOf]; omega
      · obtain rfl : k = 4 := by omega
        go_wp2
        go_ret
        refine ⟨?_, below_drewN HB.out _⟩
        have : isT t0 t1 t2 t3 s = true := decide_eq_true (getD_four (by rw [sl_length]; exact h4) rfl fun j h => (HP.out j h).symm)
        rw [this]
        rfl
  · have hne : ((s.size : Int) == 4) = false := by simp; omega
    go_enter Try.func11, Try.ntmps11
    go_wp2
    go_ret
    refine ⟨?_, (Below.refl _ _).alloc (Nat.le_refl _) _⟩
    have : isT t0 t1 t2 t3 s = false := by
      unfold isT
      refine decide_eq_false fun h => h4 ?_
      have := congrArg List.length h
      rw [sl_length] at this
      simpa using this
    rw [this]
    rfl
end Go.Proofs.Qxb6603994a
