import Derived.Test.Qxb6602907aRows
import Derived.Test.Qxb6602907aLib
import Derived.Test.Qxb6602907aDefs
import Derived.Deep.QuietTactic
import Derived.BigQuiet
namespace Go.Proofs.Qxb6602907a
open Go.RowKit
set_option linter.unusedVariables false

theorem Try.info38 : (Try.prog.info? 38).map (fun i => (i.zero, i.size, i.bytes)) = some (some (.agg #[.int .u8 0, .string ⟨#[]⟩]), 2, 24) := by kernel_rfl
theorem Try.info36 : (Try.prog.info? 36).map (fun i => (i.zero, i.size, i.bytes)) = some (some (.agg #[.int .i64 0, .int .i64 0, .int .i64 0, .int .i64 0, .slice none 0 0]), 5, 56) := by kernel_rfl
theorem Try.info5 : (Try.prog.info? 5).map (fun i => (i.zero, i.size, i.bytes)) = some (some (.int .u8 0), 1, 1) := by kernel_rfl
theorem Try.info3 : (Try.prog.info? 3).map (fun i => (i.zero, i.size, i.bytes)) = some (some (.int .i64 0), 1, 8) := by kernel_rfl

set_option maxHeartbeats 400000 in
theorem bytes12 (s1 s2 : ByteArray) (a1 a2 a3 : Option Addr) (n1 c1 n2 c2 n3 c3 : Nat) (w : World)
   (h1 : s1.size ≤ maxLen) (h2 : s2.size ≤ maxLen) (h3 : n1 ≤ maxLen) (h4 : n2 ≤ maxLen) (h5 : n3 ≤ maxLen) :
    Calls Try.prog 12 #[.string s1, .slice a1 n1 c1, .string s2, .slice a2 n2 c2, .slice a3 n3 c3] w fun e w' =>
      (∃ b : Bool, e = .returned (.bool b) ∧ (b = true → s1.size + n1 + s2.size + n2 + n3 ≤ 1048576)) ∧ w' = w := by
  unfold maxLen at *
  go_enter Try.func12, Try.ntmps12
  go_wp2
  all_goals go_ret
  all_goals refine ⟨⟨_, rfl, fun h => ?_⟩, rfl⟩
  all_goals first | (exfalso; revert h; decide) | omega

set_option maxHeartbeats 400000 in
theorem line16 (s : ByteArray) (b o n c i : Nat) (x y : Int) (w : World) (hi : i + 1 < n) (hn : n ≤ 1048576)
   (hx : w.cell? ⟨b, o + i, none⟩ = some (.int .i32 x)) (hy : w.cell? ⟨b, o + (i + 1), none⟩ = some (.int .i32 y)) 
   (h0 : 0 ≤ x) (h1 : x ≤ y) (h2 : y ≤ s.size) (h3 : s.size ≤ 1048576):
    Calls Try.prog 16 #[.string s, .slice (some ⟨b, o, none⟩) n c, .int .i64 i] w fun e w' =>
      e = .returned (.string (s.extract x.toNat y.toNat)) ∧ ∃ n, w' = w.drewN n := by
  have e1 : (i : Int) < n := by omega
  have e2 : (i : Int) + 1 < n := by omega
  go_enter Try.func16, Try.ntmps16
  go_wp2
  go_quiet (fail)
  go_wp2
  go_ret
  exact ⟨rfl, _, rfl⟩

set_option maxHeartbeats 400000 in
theorem count17 (s : ByteArray) (a : Option Addr) (n c : Nat) (w : World) (hn : n ≤ 1048576) :
    Calls Try.prog 17 #[.agg #[.string s, .slice a n c]] w fun e w' =>
      e = .returned (.int .i64 ((n : Int) - 1)) ∧ Below w.heap.size w w' := by
  go_enter Try.func17, Try.ntmps17
  go_wp2
  go_ret
  exact ⟨rfl, (Below.refl _ _).alloc (Nat.le_refl _) _⟩

set_option maxHeartbeats 400000 in
theorem lines19 (s : ByteArray) (b o n c i j : Nat) (x y : Int) (w : World) (hi : i < n) (hj : j < n) (hn : n ≤ 1048576)
   (hx : w.cell? ⟨b, o + i, none⟩ = some (.int .i32 x)) (hy : w.cell? ⟨b, o + j, none⟩ = some (.int .i32 y)) 
   (h0 : 0 ≤ x) (h1 : x ≤ y) (h2 : y ≤ s.size) (h3 : s.size ≤ 1048576):
    Calls Try.prog 19 #[.agg #[.string s, .slice (some ⟨b, o, none⟩) n c], .int .i64 i, .int .i64 j] w fun e w' =>
      e = .returned (.string (s.extract x.toNat y.toNat)) ∧ Below w.heap.size w w' := by
  have e1 : (i : Int) < n := by omega
  have e2 : (j : Int) < n := by omega
  have k1 := World.block_lt_of_cell? w _ hx
  go_enter Try.func19, Try.ntmps19
  go_wp2
  go_quiet (fail)
  go_wp2
  go_ret
  exact ⟨rfl, below_drewN ((Below.refl _ _).alloc (Nat.le_refl _) _) _⟩

def runCells (rs : List (Int × ByteArray)) : List Value := rs.flatMap fun r => [.int .u8 r.1, .string r.2]
theorem runCells_length (rs : List (Int × ByteArray)) : (runCells rs).length = rs.length * 2 := by
  induction rs with
  | nil => rfl
  | cons r rs ih => simp only [runCells, List.flatMap_cons, List.length_append, List.length_cons, List.length_nil] at ih ⊢; omega
theorem runCells_snoc (rs : List (Int × ByteArray)) (r : Int × ByteArray) : runCells (rs ++ [r]) = runCells rs ++ [.int .u8 r.1, .string r.2] := by simp [runCells]

/-- The value v is a slice that owns the runs rs. -/
def RunsIn (w : World) (base : Nat) (v : Value) (rs : List (Int × ByteArray)) : Prop := w.ownsRow base 38 2 v rs.length (runCells rs)

set_option maxHeartbeats 400000 in
theorem addrun18 (base : Nat) (v : Value) (rs : List (Int × ByteArray)) (op : Int) (s : ByteArray) (w : World) (hown : RunsIn w base v rs) (hb : base ≤ w.heap.size) (hn : rs.length ≤ 1073741824) (hs : s.size ≤ maxLen) :
    Calls Try.prog 18 #[v, .int .u8 op, .string s] w fun e w' =>
      ∃ v', e = .returned v' ∧ RunsIn w' base v' (addRun rs op s) ∧ w.grownBy w' v.ownBlock ∧ (v'.ownBlock = v.ownBlock ∨ ∃ k, v'.ownBlock = some k ∧ w.heap.size ≤ k) := by
  obtain ⟨i0, hi, hz0, hz1, hz2⟩ := info_parts Try.info38
  by_cases h : s.size = 0
  · have hs0 : s = ⟨#[]⟩ := by
      cases s with | mk d => simp [ByteArray.size] at h; subst h; rfl
    subst hs0
    go_enter Try.func18, Try.ntmps18
    go_wp2
    go_ret
    exact ⟨_, rfl, hown, World.grownBy.refl _ _, .inl rfl⟩
  · have hs0 : (s.toList == []) = false := by
      rw [Go.ByteArray.toList_eq]
      cases s with | mk d => cases d with | mk l => cases l with
        | nil => simp [ByteArray.size] at h
        | cons a l => rfl
    have H : Hid (addRun rs op s = rs ++ [(op, s)]) := by simp only [Hid, addRun, if_neg h]
    have hown' : (w.alloc (.cells #[.int .u8 op, .string s] 38)).ownsRow base 38 2 v rs.length (runCells rs) := World.ownsRow.alloc hown _
    go_enter Try.func18, Try.ntmps18
    go_wp2_with (at_builtin; refine wpList_append_src _ rfl _ _ _ _ rfl base 38 i0 _ 2 24 Try.underlying34 hi hz0 hz1 hz2 rfl (by decide) v _ _ rfl hown' _ 1 [.int .u8 op, .string s] rfl (Src.ofSlice _ Try.underlying34 ⟨w.heap.size, 0, none⟩ 1 1 _ rfl (cell_two_new _ _ _ _) ?c1) ?c2 ?c3 ?c4 ?_)
    case c1 => intro u hu; simp at hu; rcases hu with rfl | rfl <;> rfl
    case c2 => unfold maxLen; omega
    case c3 => omega
    case c4 => simp; omega
    intro v' w1 ho hg hat
    go_wp2
    go_ret
    refine ⟨_, rfl, ?_, (World.grownBy_alloc w _ _).trans hg, ?_⟩
    · rw [H.out]; unfold RunsIn; rw [runCells_snoc, List.length_append]; exact ho
    · rcases hat with hat | hat
      · exact .inl hat
      · exact .inr ⟨_, hat, by simp⟩
end Go.Proofs.Qxb6602907a
