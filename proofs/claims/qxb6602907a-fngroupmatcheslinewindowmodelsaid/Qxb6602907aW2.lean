import Derived.Test.Qxb6602907aW1
namespace Go.Proofs.Qxb6602907a
open Go.RowKit
set_option linter.unusedVariables false

theorem drewN_add (w : World) (a b : Nat) : (w.drewN a).drewN b = w.drewN (a + b) := by simp [World.drewN, Nat.add_assoc]

/-- The slice 'ao' of int32s: its cells are z. -/
def I32At (w : World) (b o : Nat) (z : List Int) : Prop := ∀ i, i < z.length → w.cell? ⟨b, o + i, none⟩ = some (.int .i32 (z.getD i 0))

set_option maxHeartbeats 400000 in
theorem textok6_nil (s : ByteArray) (a : Option Addr) (c : Nat) (w : World) :
    Calls Try.prog 6 #[.string s, .slice a 0 c] w fun e w' => e = .returned (.bool false) ∧ w' = w := by
  go_enter Try.func6, Try.ntmps6
  go_wp2
  go_ret
  exact ⟨rfl, rfl⟩

set_option maxHeartbeats 800000 in
theorem textok6_ (s : ByteArray) (b o c N : Nat) (z : List Int) (w : World) (HN : Hid (N = z.length)) (hz : 0 < N) (hn : N ≤ 1048576) (hs : s.size ≤ 1048576) (hc : I32At w b o z) (hwf : ∀ i, -2147483648 ≤ z.getD i 0 ∧ z.getD i 0 ≤ 2147483647)
   (x0 xl : Int) (H0 : Hid (x0 = z.getD 0 0)) (HL : Hid (xl = z.getD (N - 1) 0)) :
    Calls Try.prog 6 #[.string s, .slice (some ⟨b, o, none⟩) N c] w fun e w' => ∃ r : Bool, e = .returned (.bool r) ∧ (r = true → TextOK s z) ∧ ∃ n, w' = w.drewN n := by
  have hb1 := hwf 0
  have hb2 := hwf (N - 1)
  rw [← H0.out] at hb1
  rw [← HL.out] at hb2
  have h0 : w.cell? ⟨b, o, none⟩ = some (.int .i32 x0) := by have := hc 0 (HN.out ▸ hz); rw [← H0.out] at this; simpa using this
  have hl : w.cell? ⟨b, o + (N - 1), none⟩ = some (.int .i32 xl) := by have := hc (N - 1) (by rw [← HN.out]; omega); rw [← HL.out] at this; exact this
  have e0 : (0 : Int) < N := by omega
  have e00 : ((N : Int) == 0) = false := by simp; omega
  have e1 : ((N : Int) - 1) < N := by omega
  have en : ((N : Int) - 1).toNat = N - 1 := by omega
  by_cases hx : x0 = 0
  · subst hx
    go_enter Try.func6, Try.ntmps6
    go_wp2
    go_loopw [5] (fun i wr => ∃ k : Nat, k + 1 ≤ N ∧ i = .int .i64 ((k : Int) + 1) ∧ Hid (∀ j, 1 ≤ j → j < k + 1 → z.getD (j - 1) 0 ≤ z.getD j 0) ∧ ∃ n, wr = w.drewN n) (fun i _ => N - (intOf i).toNat)
    case atStart => exact ⟨0, by omega, rfl, fun j h1 h2 => by omega, 0, rfl⟩
    case round =>
      obtain ⟨k, hk, rfl, hall, nd, rfl⟩ := hrel
      by_cases hlt : k + 1 < N
      · obtain ⟨x, hx⟩ : ∃ x, x = z.getD (k + 1) 0 := ⟨_, rfl⟩
        obtain ⟨y, hy⟩ : ∃ x, x = z.getD k 0 := ⟨_, rfl⟩
        have c1 : w.cell? ⟨b, o + (k + 1), none⟩ = some (.int .i32 x) := by rw [hx]; exact hc (k + 1) (by rw [← HN.out]; omega)
        have c2 : w.cell? ⟨b, o + k, none⟩ = some (.int .i32 y) := by rw [hy]; exact hc k (by rw [← HN.out]; omega)
        have HX : Hid (x = z.getD (k + 1) 0) := hx; clear hx
        have HY : Hid (y = z.getD k 0) := hy; clear hy
        have i1 : (k : Int) < N := by omega
        have i2 : (k : Int) + 1 < N := by omega
        clear hc hwf
        go_wp2
        go_quiet (fail)
        go_wp2
        · go_ret
          exact ⟨false, rfl, fun h => (by cases h), _, drewN_add _ _ _⟩
        · have hyx : y ≤ x := by omega
          go_roundw
          case rel => exact ⟨k + 1, by omega, by go_num, fun j h1 h2 => by
              by_cases hj : j < k + 1
              · exact hall.out j h1 hj
              · obtain rfl : j = k + 1 := by omega
                rw [Nat.add_sub_cancel, ← HX.out, ← HY.out]; exact hyx, _, rfl⟩
          case measure => simp [intOf]; omega
      · have hkN : k + 1 = N := by omega
        clear hc hwf
        go_wp2
        go_ret
        refine ⟨_, rfl, fun h => ?_, nd, rfl⟩
        refine ⟨by rw [← HN.out]; exact hz, H0.out.symm, fun j h1 h2 => hall.out j h1 (by rw [← HN.out] at h2; omega), ?_⟩
        rw [← HN.out, ← HL.out]
        simpa using h
  · have hx' : (x0 == 0) = false := by simpa using hx
    go_enter Try.func6, Try.ntmps6
    go_wp2
    go_ret
    exact ⟨false, rfl, fun h => (by cases h), 0, rfl⟩

theorem textok6 (s : ByteArray) (a : Option Addr) (c : Nat) (z : List Int) (w : World) (hn : z.length ≤ 1048576) (hs : s.size ≤ 1048576) (hc : 0 < z.length → ∃ b o, a = some ⟨b, o, none⟩ ∧ I32At w b o z) (hwf : ∀ i, -2147483648 ≤ z.getD i 0 ∧ z.getD i 0 ≤ 2147483647) :
    Calls Try.prog 6 #[.string s, .slice a z.length c] w fun e w' => ∃ r : Bool, e = .returned (.bool r) ∧ (r = true → TextOK s z) ∧ ∃ n, w' = w.drewN n := by
  by_cases h : 0 < z.length
  · obtain ⟨b, o, rfl, hc'⟩ := hc h
    exact textok6_ s b o c z.length z w rfl h hn hs hc' hwf _ _ rfl rfl
  · have h0 : z.length = 0 := by omega
    rw [h0]
    refine (textok6_nil s a c w).mono ?_
    rintro e w' ⟨rfl, rfl⟩
    exact ⟨false, rfl, fun h => (by cases h), 0, rfl⟩
end Go.Proofs.Qxb6602907a
