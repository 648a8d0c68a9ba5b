import Derived.Test.Qxb6600979aL2
namespace Go.Proofs.Qxb6600979a
open Go.RowKit
set_option linter.unusedVariables false

def BoolR (e : Ending) : Prop := ∃ b : Bool, e = .returned (.bool b)
def Lens (xs : List (Sl × Sl)) : Prop := ∀ p ∈ xs, p.1.n ≤ maxLen ∧ p.2.n ≤ maxLen

def BigR (xs : List (Sl × Sl)) (N : Nat) (e : Ending) : Prop := ∃ b : Bool, e = .returned (.bool b) ∧ (b = false → N * 48 ≤ 1048576 ∧ ∀ p ∈ xs, p.1.n ≤ 1048576 ∧ p.2.n ≤ 1048576)

set_option maxHeartbeats 2000000 in
theorem big9 (a : Option Addr) (N c : Nat) (xs : List (Sl × Sl)) (E : Nat) (w : World) (HN : Hid (N = xs.length)) (hN : N ≤ maxLen) (hE : E ≤ 1048576) (hr : RowR w a xs) (hl : Lens xs) :
    Calls Try.prog 9 #[.slice a N c, .int .i64 E] w fun e w' => BigR xs N e ∧ ∃ n, w' = w.drewN n := by
  have HR : Hid (RowR w a xs) := hr
  have HL : Hid (Lens xs) := hl
  clear hr hl
  unfold maxLen at hN
  have hE' : ¬ (1048576 : Int) < E := by omega
  go_enter Try.func9, Try.ntmps9
  go_wp2
  go_loopw [5, 6] (fun z i wr => ∃ (k nd : Nat) (q : Int), k ≤ N ∧ i = .int .i64 k ∧ z = .int .i64 q ∧ (k : Int) * 48 ≤ q ∧ q ≤ 1048576 ∧ Hid (∀ j p, j < k → xs[j]? = some p → p.1.n ≤ 1048576 ∧ p.2.n ≤ 1048576) ∧ wr = w.drewN nd) (fun z i _ => N - (intOf i).toNat)
  case atStart => exact ⟨0, 0, E, by omega, rfl, rfl, by omega, by omega, fun j p h => by omega, rfl⟩
  case round =>
    obtain ⟨k, nd, q, hk, rfl, rfl, hq0, hq1, HA, rfl⟩ := hrel
    by_cases hlt : k < N
    · obtain ⟨p, hp⟩ : ∃ p, xs[k]? = some p := ⟨xs[k]'(by rw [← HN.out]; exact hlt), by simp⟩
      obtain ⟨b, o, rfl, c1, c2⟩ := HR.out k p hp
      have hb := HL.out p (List.mem_of_getElem? hp)
      have HP : Hid (xs[k]? = some p) := hp
      clear hp
      obtain ⟨⟨xa, xn, xc, xl⟩, ⟨ya, yn, yc, yl⟩⟩ := p
      unfold Sl.v at c1 c2
      simp only at c1 c2 hb
      unfold maxLen at hb
      have ik : (k : Int) < N := by omega
      rcases Nat.lt_or_ge 1048576 xn with h1 | h1
      · have j1 : (1048576 : Int) < xn := by omega
        go_wp2
        go_ret
        exact ⟨⟨true, rfl, fun h => (by cases h)⟩, _, rfl⟩
      rcases Nat.lt_or_ge 1048576 yn with h2 | h2
      · have j1 : ¬ (1048576 : Int) < xn := by omega
        have j1' : decide ((1048576 : Int) < xn) = false := decide_eq_false j1
        have j2 : (1048576 : Int) < yn := by omega
        go_wp2
        go_ret
        exact ⟨⟨true, rfl, fun h => (by cases h)⟩, _, rfl⟩
      have j1 : ¬ (1048576 : Int) < xn := by omega
      have j1' : decide ((1048576 : Int) < xn) = false := decide_eq_false j1
      have j2 : ¬ (1048576 : Int) < yn := by omega
      have j2' : decide ((1048576 : Int) < yn) = false := decide_eq_false j2
      go_wp2
      go_quiet (fail)
      go_wp2
      · go_ret
        exact ⟨⟨true, rfl, fun h => (by cases h)⟩, _, rfl⟩
      · go_roundw
        case rel => exact ⟨k + 1, _, q + 48 + (xn + yn), by omega, by go_num, by go_num, by omega, by omega, fun j p hj hjp => by
          by_cases e : j = k
          · subst e
            rw [HP.out] at hjp
            cases hjp
            exact ⟨h1, h2⟩
          · exact HA.out j p (by omega) hjp, rfl⟩
        case measure => go_light; simp only [intOf]; omega
    · have hkN : k = N := by omega
      go_wp2
      go_ret
      refine ⟨⟨false, rfl, fun _ => ⟨by omega, fun p hp => ?_⟩⟩, _, rfl⟩
      obtain ⟨j, hj, e⟩ := List.getElem_of_mem hp
      exact HA.out j p (by rw [hkN, HN.out]; exact hj) (by rw [List.getElem?_eq_getElem hj, e])

set_option maxHeartbeats 2000000 in
theorem bytes19 (a : Option Addr) (N c : Nat) (xs : List (Sl × Sl)) (ka : Option Addr) (kn kc : Nat) (w : World) (HN : Hid (N = xs.length)) (hN : N ≤ maxLen) (hkn : kn ≤ maxLen) (hr : RowR w a xs) (hl : Lens xs) :
    Calls Try.prog 19 #[.slice a N c, .slice ka kn kc] w fun e w' => BoolR e ∧ w' = w := by
  have HR : Hid (RowR w a xs) := hr
  have HL : Hid (Lens xs) := hl
  clear hr hl
  unfold maxLen at hN hkn
  rcases Nat.lt_or_ge 1048576 N with h0 | h0
  · have j0 : (1048576 : Int) < N := by omega
    go_enter Try.func19, Try.ntmps19
    go_wp2
    go_ret
    exact ⟨⟨_, rfl⟩, rfl⟩
  have j0 : ¬ (1048576 : Int) < N := by omega
  go_enter Try.func19, Try.ntmps19
  go_wp2
  go_loopw [5, 6] (fun z i wr => ∃ (k : Nat) (q : Int), k ≤ N ∧ i = .int .i64 k ∧ z = .int .i64 q ∧ 0 ≤ q ∧ q ≤ 1048576 ∧ Hid (wr = w)) (fun z i _ => N - (intOf i).toNat)
  case atStart => exact ⟨0, N, by omega, rfl, rfl, by omega, by omega, rfl⟩
  case round =>
    obtain ⟨k, q, hk, rfl, rfl, hq0, hq1, HW⟩ := hrel
    obtain rfl := HW.out
    by_cases hlt : k < N
    · obtain ⟨p, hp⟩ : ∃ p, xs[k]? = some p := ⟨xs[k]'(by rw [← HN.out]; exact hlt), by simp⟩
      obtain ⟨b, o, rfl, c1, c2⟩ := HR.out k p hp
      have hb := HL.out p (List.mem_of_getElem? hp)
      clear hp
      obtain ⟨⟨xa, xn, xc, xl⟩, ⟨ya, yn, yc, yl⟩⟩ := p
      unfold Sl.v at c1 c2
      simp only at c1 c2 hb
      unfold maxLen at hb
      have ik : (k : Int) < N := by omega
      rcases Nat.lt_or_ge 1048576 xn with h1 | h1
      · have j1 : (1048576 : Int) < xn := by omega
        go_wp2
        go_ret
        exact ⟨⟨_, rfl⟩, rfl⟩
      have j1 : ¬ (1048576 : Int) < xn := by omega
      by_cases h2 : (1048576 : Int) < q + xn
      · go_wp2
        go_ret
        exact ⟨⟨_, rfl⟩, rfl⟩
      rcases Nat.lt_or_ge 1048576 yn with h3 | h3
      · have j3 : (1048576 : Int) < yn := by omega
        go_wp2
        go_ret
        exact ⟨⟨_, rfl⟩, rfl⟩
      have j3 : ¬ (1048576 : Int) < yn := by omega
      by_cases h4 : (1048576 : Int) < q + xn + yn
      · go_wp2
        go_ret
        exact ⟨⟨_, rfl⟩, rfl⟩
      go_wp2
      go_roundw
      case rel => exact ⟨k + 1, q + xn + yn, by omega, by go_num, by go_num, by omega, by omega, trivial⟩
      case measure => go_light; simp only [intOf]; omega
    · have hkN : k = N := by omega
      go_wp2
      all_goals go_ret
      all_goals exact ⟨⟨_, rfl⟩, rfl⟩
end Go.Proofs.Qxb6600979a
