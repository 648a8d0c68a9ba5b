import Derived.Test.Qxb6601018aRows
import Derived.Test.Qxb6601018aLib
import Derived.Deep.QuietTactic
import Derived.BigQuiet
import Derived.Deep.RegionHeld3
import Derived.BigRegion
import Derived.Deep.Light
import Derived.Laws.Rows
import Derived.Laws.Cover3
import Derived.Deep.MidRow
import Derived.WalkLawsBesides
namespace Go.Proofs.Qxb6601018a
open Go.RowKit
set_option linter.unusedVariables false

theorem Try.info59 : (Try.prog.info? 59).map (fun i => (i.zero, i.size, i.bytes)) = some (some (.agg #[.int .u64 0, .int .u64 0]), 2, 16) := by kernel_rfl
theorem Try.info33 : (Try.prog.info? 33).map (fun i => (i.zero, i.size, i.bytes)) = some (some (.int .u64 0), 1, 8) := by kernel_rfl

/-- 's == nil' of a slice. -/
@[go_sem] theorem eql_slice_nil {P : Program} (w : World) (t e : TypeId) (a : Option Addr) (l c : Nat) (h : P.underlying t = some (.slice e)) : (binOp .eql t (.slice a l c) (.slice none 0 0)).run P w = .ok (.bool a.isNone) w := by
  simp only [binOp]
  simp [run_equal_slice_nil w t e a l c h]

theorem below_drewN {B : Nat} {a w : World} (h : Below B a w) (n : Nat) : Below B a (w.drewN n) := ⟨h.os, h.tape, h.output, h.size, h.block⟩
theorem drewN_add (w : World) (a b : Nat) : (w.drewN a).drewN b = w.drewN (a + b) := by simp [World.drewN, Nat.add_assoc]

abbrev Pl := Int × Int
def flatP : List Pl → List Value
  | [] => []
  | p :: r => .int .u64 p.1 :: .int .u64 p.2 :: flatP r
theorem flatP_len : ∀ ps : List Pl, (flatP ps).length = ps.length * 2
  | [] => rfl
  | p :: r => by simp [flatP, flatP_len r]; omega
theorem flatP_at : ∀ (ps : List Pl) (i : Nat) (p : Pl), ps[i]? = some p → (flatP ps)[i * 2]? = some (.int .u64 p.1) ∧ (flatP ps)[i * 2 + 1]? = some (.int .u64 p.2)
  | [], i, p, h => by simp at h
  | q :: r, 0, p, h => by simp at h; subst h; simp [flatP]
  | q :: r, i + 1, p, h => by
    have := flatP_at r i p (by simpa using h)
    rw [show (i + 1) * 2 = i * 2 + 2 from by omega]
    simpa [flatP] using this
theorem flatP_set : ∀ (ps : List Pl) (i : Nat) (p : Pl), flatP (ps.set i p) = ((flatP ps).set (i * 2) (.int .u64 p.1)).set (i * 2 + 1) (.int .u64 p.2)
  | [], i, p => by simp [flatP]
  | q :: r, 0, p => by simp [flatP]
  | q :: r, i + 1, p => by
    rw [show (i + 1) * 2 = i * 2 + 2 from by omega]
    simp [flatP, flatP_set r i p]
theorem flatP_set2 : ∀ (ps : List Pl) (i : Nat) (h l l' : Int), ps[i]? = some (h, l) → flatP (ps.set i (h, l')) = (flatP ps).set (i * 2 + 1) (.int .u64 l')
  | [], i, h, l, l', e => by simp at e
  | q :: r, 0, h, l, l', e => by simp at e; subst e; simp [flatP]
  | q :: r, i + 1, h, l, l', e => by
    rw [show (i + 1) * 2 = i * 2 + 2 from by omega]
    simp [flatP, flatP_set2 r i h l l' (by simpa using e)]

/-- The row of places. -/
def PRow (w : World) (B g : Nat) (ps : List Pl) : Prop := w.ownsRow B 59 2 (.slice (some ⟨g, 0, none⟩) ps.length ps.length) ps.length (flatP ps)
theorem PRow.cells {w : World} {B g : Nat} {ps : List Pl} (h : PRow w B g ps) {i : Nat} {p : Pl} (hp : ps[i]? = some p) : w.cell? ⟨g, i * 2, none⟩ = some (.int .u64 p.1) ∧ w.cell? ⟨g, i * 2 + 1, none⟩ = some (.int .u64 p.2) := by
  have hi : i < ps.length := by
    rcases Nat.lt_or_ge i ps.length with h' | h'
    · exact h'
    · rw [List.getElem?_eq_none h'] at hp; cases hp
  obtain ⟨a, b⟩ := flatP_at ps i p hp
  exact ⟨by rw [World.ownsRow.cellAt h _ (by omega)]; exact a, by rw [World.ownsRow.cellAt h _ (by omega)]; exact b⟩
theorem PRow.frozen {w : World} {B g : Nat} {ps : List Pl} (h : PRow w B g ps) (j : Nat) : w.frozen? ⟨g, j, none⟩ = false := World.ownsRow.frozenAt h j
theorem PRow.lt {w : World} {B g : Nat} {ps : List Pl} (h : PRow w B g ps) : B ≤ g ∧ g < w.heap.size := World.ownsRow.lt h g rfl
theorem PRow.below {w W : World} {B g C : Nat} {ps : List Pl} (h : PRow w B g ps) (hb : Below C w W) (hg : g < C) : PRow W B g ps := owns_below h hb (fun k e => by cases e; exact hg)
theorem PRow.base {w : World} {B B' g : Nat} {ps : List Pl} (h : PRow w B g ps) (hb : B' ≤ B) : PRow w B' g ps := owns_base h hb
theorem PRow.other {w : World} {B g : Nat} {ps : List Pl} (h : PRow w B g ps) {b j : Nat} (v : Value) (hne : b ≠ g) : PRow (w.setCell ⟨b, j, none⟩ v) B g ps := by
  refine ⟨h.1, ?_⟩
  rcases h.2 with hn | ⟨g', cap, cur, he, hbg, hgg, rest⟩
  · exact .inl hn
  · have : g' = g := by simp at he; exact he.1.symm
    subst this
    exact .inr ⟨g', cap, cur, he, hbg, by rw [Below.heap_setCell w ⟨b, j, none⟩ v g' (Ne.symm hne)]; exact hgg, rest⟩

/-! ### the masks -/
theorem ofInt_nat (a : Nat) (h : a < 2 ^ 64) : (BitVec.ofInt 64 (a : Int)).toNat = a := by
  rw [BitVec.toNat_ofInt]
  omega
theorem and_mask (a e : Nat) (ha : a < 18446744073709551616) (he : e ≤ 14) : bits .and .u64 (a : Int) (((2 ^ e : Nat) : Int) - 1) = ((a % 2 ^ e : Nat) : Int) := by
  have hp : 0 < 2 ^ e := Nat.two_pow_pos e
  have hle : 2 ^ e ≤ 2 ^ 14 := Nat.pow_le_pow_right (by decide) he
  have e1 : ((2 ^ e : Nat) : Int) - 1 = ((2 ^ e - 1 : Nat) : Int) := by omega
  have h1 : (BitVec.ofInt 64 (a : Int) &&& BitVec.ofInt 64 ((2 ^ e - 1 : Nat) : Int)).toNat = a % 2 ^ e := by
    rw [BitVec.toNat_and, ofInt_nat a (by omega), ofInt_nat (2 ^ e - 1) (by omega), Nat.and_two_pow_sub_one_eq_mod]
  have hlt : a % 2 ^ e < 2 ^ e := Nat.mod_lt _ hp
  have h2 : bits .and .u64 (a : Int) ((2 ^ e - 1 : Nat) : Int) = IntKind.u64.wrap (((BitVec.ofInt 64 (a : Int) &&& BitVec.ofInt 64 ((2 ^ e - 1 : Nat) : Int)).toNat : Nat) : Int) := rfl
  rw [e1, h2, h1]
  simp only [IntKind.wrap, IntKind.bits, IntKind.signed, Bool.false_and, Bool.false_eq_true, if_false]
  omega
theorem and_self (e : Nat) (he : e ≤ 14) : bits .and .i64 ((2 ^ e : Nat) : Int) (((2 ^ e : Nat) : Int) - 1) = 0 := by
  have hp : 0 < 2 ^ e := Nat.two_pow_pos e
  have hle : 2 ^ e ≤ 2 ^ 14 := Nat.pow_le_pow_right (by decide) he
  have e1 : ((2 ^ e : Nat) : Int) - 1 = ((2 ^ e - 1 : Nat) : Int) := by omega
  have h1 : (BitVec.ofInt 64 ((2 ^ e : Nat) : Int) &&& BitVec.ofInt 64 ((2 ^ e - 1 : Nat) : Int)).toNat = 0 := by
    rw [BitVec.toNat_and, ofInt_nat (2 ^ e) (by omega), ofInt_nat (2 ^ e - 1) (by omega), Nat.and_two_pow_sub_one_eq_mod, Nat.mod_self]
  have h2 : bits .and .i64 ((2 ^ e : Nat) : Int) ((2 ^ e - 1 : Nat) : Int) = IntKind.i64.wrap (((BitVec.ofInt 64 ((2 ^ e : Nat) : Int) &&& BitVec.ofInt 64 ((2 ^ e - 1 : Nat) : Int)).toNat : Nat) : Int) := rfl
  rw [e1, h2, h1]
  decide
theorem wrap_u {x : Int} (h : 0 ≤ x ∧ x < 18446744073709551616) : IntKind.u64.wrap x = x := by
  simp only [IntKind.wrap, IntKind.bits, IntKind.signed, Bool.false_and, Bool.false_eq_true, if_false]
  omega

/-- The way from i on, round the table, to the free place f. -/
def dist (S f i : Nat) : Nat := if i ≤ f then f - i else f + S - i
theorem dist_step {S f i : Nat} (hf : f < S) (hi : i < S) (hne : i ≠ f) : dist S f ((i + 1) % S) < dist S f i := by
  unfold dist
  by_cases h : i + 1 = S
  · rw [h, Nat.mod_self]
    by_cases h2 : i ≤ f
    · omega
    · rw [if_neg h2]
      simp
      omega
  · rw [Nat.mod_eq_of_lt (by omega)]
    by_cases h2 : i ≤ f
    · rw [if_pos h2, if_pos (by omega)]; omega
    · rw [if_neg h2, if_neg (by omega)]; omega

structure Wf (ps : List Pl) : Prop where
  all : ∀ p ∈ ps, (0 ≤ p.1 ∧ p.1 < 18446744073709551616) ∧ 0 ≤ p.2 ∧ p.2 < 18446744073709551616

def FindR (ps : List Pl) (e : Ending) : Prop := e = .returned (.tuple #[.int .i64 0, .bool false]) ∨ ∃ i : Nat, ∃ p : Pl, ps[i]? = some p ∧ p.2 ≠ 0 ∧ p.2 ≠ 18446744073709551615 ∧ e = .returned (.tuple #[.int .i64 i, .bool true])

set_option maxHeartbeats 4000000 in
theorem find41 (B g S e : Nat) (ps : List Pl) (h : Nat) (w : World) (HS : Hid (ps.length = S)) (HE : Hid (S = 2 ^ e)) (he : 3 ≤ e ∧ e ≤ 14) (hh : h < 18446744073709551616) (hr : PRow w B g ps) (f : Nat) (hf : ∃ p, ps[f]? = some p ∧ p.2 = 0) :
    Calls Try.prog 41 #[.slice (some ⟨g, 0, none⟩) S S, .int .u64 h] w fun e w' => FindR ps e ∧ Below w.heap.size w w' := by
  have HR : Hid (PRow w B g ps) := hr
  have HF : Hid (∃ p, ps[f]? = some p ∧ p.2 = 0) := hf
  have hfS : f < S := by
    obtain ⟨p, hp, _⟩ := hf
    rw [← HS.out]
    rcases Nat.lt_or_ge f ps.length with h' | h'
    · exact h'
    · rw [List.getElem?_eq_none h'] at hp; cases hp
  clear hr hf
  have hS8 : 8 ≤ S := by rw [HE.out]; exact Nat.pow_le_pow_right (n := 2) (by decide) he.1
  have hSb : S ≤ 16384 := by rw [HE.out]; exact Nat.pow_le_pow_right (n := 2) (by decide) he.2
  have hwm : IntKind.u64.wrap ((S : Int) - 1) = (S : Int) - 1 := wrap_u (by omega)
  have hand : ∀ a : Nat, a < 18446744073709551616 → bits .and .u64 (a : Int) ((S : Int) - 1) = ((a % S : Nat) : Int) := fun a ha => by rw [HE.out]; exact and_mask a e ha he.2
  obtain ⟨i0, hi0⟩ : ∃ i0, i0 = h % S := ⟨_, rfl⟩
  have hi0S : i0 < S := by rw [hi0]; exact Nat.mod_lt _ (by omega)
  have ha0 : bits .and .u64 (h : Int) ((S : Int) - 1) = (i0 : Int) := by rw [hand h hh, hi0]
  have HAnd : Hid (∀ a : Nat, a < 18446744073709551616 → bits .and .u64 (a : Int) ((S : Int) - 1) = ((a % S : Nat) : Int)) := hand
  clear hand hi0
  go_enter Try.func41, Try.ntmps41
  go_wp2
  go_loopw [7] (fun v wr => ∃ (i : Nat), i < S ∧ v = .int .u64 i ∧ Hid (Below w.heap.size w wr)) (fun v _ => dist S f (intOf v).toNat)
  case atStart => exact ⟨i0, hi0S, rfl, Below.refl _ _⟩
  case round =>
    obtain ⟨i, hi, rfl, HB⟩ := hrel
    obtain ⟨⟨ph, pl⟩, hp⟩ : ∃ p, ps[i]? = some p := ⟨ps[i]'(by rw [HS.out]; exact hi), by simp⟩
    have hg := HR.out.lt
    have hR : PRow wr B g ps := HR.out.below HB.out hg.2
    obtain ⟨c1, c2⟩ := hR.cells hp
    simp only at c1 c2
    have HP : Hid (ps[i]? = some (ph, pl)) := hp
    have iS : (i : Int) < S := by omega
    clear hp hR
    have hnx : (i + 1) % S < S := Nat.mod_lt _ (by omega)
    have ha1 : bits .and .u64 ((i : Int) + 1) ((S : Int) - 1) = (((i + 1) % S : Nat) : Int) := by have := HAnd.out (i + 1) (by omega); simpa using this
    have HNe : Hid (pl ≠ 0 → i ≠ f) := fun hne e => by
      subst e
      obtain ⟨p, hp, h0⟩ := HF.out
      rw [HP.out] at hp
      cases hp
      exact hne h0
    have hBa : ∀ o, Below w.heap.size w (wr.alloc o) := fun o => HB.out.alloc HB.out.size o
    by_cases h0 : pl = 0
    · subst h0
      go_wp2
      go_ret2
      exact ⟨.inl rfl, hBa _⟩
    · have h0' : (pl == 0) = false := by simpa using h0
      by_cases h1 : ph = (h : Int)
      · by_cases h2 : pl = 18446744073709551615
        · go_wp2
          go_roundw
          case rel => exact ⟨(i + 1) % S, hnx, rfl, hBa _⟩
          case measure => go_light; simp only [intOf, Int.toNat_natCast]; exact dist_step hfS hi (HNe.out h0)
        · have h2' : (pl != 18446744073709551615) = true := by simpa using h2
          go_wp2
          go_ret2
          exact ⟨.inr ⟨i, (ph, pl), HP.out, h0, h2, rfl⟩, hBa _⟩
      · have h1' : (ph == (h : Int)) = false := by simpa using h1
        go_wp2
        go_roundw
        case rel => exact ⟨(i + 1) % S, hnx, rfl, hBa _⟩
        case measure => go_light; simp only [intOf, Int.toNat_natCast]; exact dist_step hfS hi (HNe.out h0)
end Go.Proofs.Qxb6601018a
