import Derived.Test.Qxb6601018aW7
namespace Go.Proofs.Qxb6601018a
open Go.RowKit
set_option linter.unusedVariables false

/-- A slice of uint64. -/
structure USl (w : World) (a : Option Addr) (N : Nat) (zs : List Nat) : Prop where
  len : zs.length = N
  nil : a = none → N = 0
  at_ : ∀ (k z : Nat), zs[k]? = some z → ∃ g o, a = some ⟨g, o, none⟩ ∧ w.cell? ⟨g, o + k, none⟩ = some (.int .u64 (z : Int))
  rng : ∀ z ∈ zs, z < 18446744073709551616
theorem USl.below {w W : World} {a : Option Addr} {N : Nat} {zs : List Nat} {C : Nat} (h : USl w a N zs) (hb : Below C w W) (hc : ∀ x, a = some x → x.block < C) : USl W a N zs := ⟨h.len, h.nil, fun k z hz => by
  obtain ⟨g, o, e, q⟩ := h.at_ k z hz
  exact ⟨g, o, e, (World.cell?_of_block (a := ⟨g, o + k, none⟩) (hb.block g (hc _ e))).trans q⟩, h.rng⟩
theorem USl.later {w W : World} {a : Option Addr} {N : Nat} {zs : List Nat} (h : USl w a N zs) (hb : Below w.heap.size w W) : USl W a N zs := ⟨h.len, h.nil, fun k z hz => by
  obtain ⟨g, o, e, q⟩ := h.at_ k z hz
  exact ⟨g, o, e, (World.cell?_of_block (a := ⟨g, o + k, none⟩) (hb.block g (World.block_lt_of_cell? w _ q))).trans q⟩, h.rng⟩

theorem bytes34 (a0 a1 : Option Addr) (n0 c0 n1 c1 : Nat) (w : World) (h0 : n0 ≤ maxLen) (h1 : n1 ≤ maxLen) :
    Calls Try.prog 34 #[.slice a0 n0 c0, .slice a1 n1 c1] w fun e w' => (e = .returned (.bool true) ∨ e = .returned (.bool false)) ∧ w' = w := by
  unfold maxLen at h0 h1
  by_cases k0 : n0 ≤ 1048576
  · have i0 : (n0 : Int) ≤ 1048576 := by omega
    by_cases k1 : n1 ≤ 1048576
    · have i1 : (n1 : Int) ≤ 1048576 := by omega
      by_cases k2 : n0 + n1 ≤ 1048576
      · have i2 : (n0 : Int) + n1 ≤ 1048576 := by omega
        go_enter Try.func34, Try.ntmps34
        go_wp2
        go_ret
        exact ⟨.inl rfl, rfl⟩
      · have i2 : ¬ (n0 : Int) + n1 ≤ 1048576 := by omega
        go_enter Try.func34, Try.ntmps34
        go_wp2
        go_ret
        exact ⟨.inr rfl, rfl⟩
    · have i1 : ¬ (n1 : Int) ≤ 1048576 := by omega
      go_enter Try.func34, Try.ntmps34
      go_wp2
      go_ret
      exact ⟨.inr rfl, rfl⟩
  · have i0 : ¬ (n0 : Int) ≤ 1048576 := by omega
    go_enter Try.func34, Try.ntmps34
    go_wp2
    go_ret
    exact ⟨.inr rfl, rfl⟩

theorem pairs10 (a0 a1 : Option Addr) (n0 c0 n1 c1 : Nat) (w : World) (h0 : n0 ≤ 4096) (h1 : n1 ≤ 4096) :
    Calls Try.prog 10 #[.slice a0 n0 c0, .slice a1 n1 c1] w fun e w' => (∃ k : Nat, k ≤ n0 ∧ k ≤ n1 ∧ e = .returned (.int .i64 k)) ∧ w' = w := by
  by_cases k0 : n1 < n0
  · have i0 : (n1 : Int) < n0 := by omega
    go_enter Try.func10, Try.ntmps10
    go_wp2
    go_ret
    exact ⟨⟨n1, by omega, by omega, rfl⟩, rfl⟩
  · have i0 : ¬ (n1 : Int) < n0 := by omega
    go_enter Try.func10, Try.ntmps10
    go_wp2
    go_ret
    exact ⟨⟨n0, by omega, by omega, rfl⟩, rfl⟩

set_option maxHeartbeats 1000000 in
set_option maxRecDepth 100000 in
theorem fit26 (a : Option Addr) (N cap K : Nat) (zs : List Nat) (w : World) (hz : USl w a N zs) (hN : N ≤ 4096) (hK : K ≤ N) :
    Calls Try.prog 26 #[.slice a N cap, .int .i64 K] w fun e w' => (e = .returned (.bool false) ∨ (e = .returned (.bool true) ∧ Hid (∀ j z, j < K → zs[j]? = some z → z < 18446744073709551614))) ∧ w' = w := by
  have HZ : Hid (USl w a N zs) := hz
  clear hz
  go_enter Try.func26, Try.ntmps26
  go_wp2
  go_loopw [5] (fun i wr => ∃ k : Nat, k ≤ K ∧ i = .int .i64 k ∧ Hid (∀ j z, j < k → zs[j]? = some z → z < 18446744073709551614) ∧ Hid (wr = w)) (fun i _ => K - (intOf i).toNat)
  case atStart => exact ⟨0, by omega, rfl, fun j z h => (by omega), rfl⟩
  case round =>
    obtain ⟨k, hk, rfl, HF, HW⟩ := hrel
    obtain rfl := HW.out
    by_cases hlt : k < K
    · have i1 : (k : Int) < K := by omega
      have i2 : (k : Int) < N := by omega
      obtain ⟨z, hzk⟩ : ∃ z, zs[k]? = some z := ⟨zs[k]'(by rw [HZ.out.len]; omega), by simp⟩
      obtain ⟨g, o, rfl, c⟩ := HZ.out.at_ k z hzk
      have HK : Hid (zs[k]? = some z) := hzk
      clear hzk
      by_cases hbig : z < 18446744073709551614
      · have HBig : Hid (z < 18446744073709551614) := hbig
        have ib : decide ((18446744073709551614 : Int) ≤ (z : Int)) = false := by simp; omega
        clear hbig
        go_wp2
        go_roundw
        case rel => exact ⟨k + 1, by omega, by go_num, fun j y hj hy => by
          rcases Nat.lt_or_ge j k with h' | h'
          · exact HF.out j y h' hy
          · obtain rfl : j = k := by omega
            rw [HK.out] at hy
            cases hy
            exact HBig.out, trivial⟩
        case measure => go_light; simp only [intOf]; omega
      · have ib : decide ((18446744073709551614 : Int) ≤ (z : Int)) = true := by simp; omega
        clear hbig
        go_wp2
        go_ret
        exact ⟨.inl rfl, rfl⟩
    · have i1 : ¬ (k : Int) < K := by omega
      go_wp2
      go_ret
      exact ⟨.inr ⟨rfl, fun j z hj hz => HF.out j z (by omega) hz⟩, rfl⟩

theorem len19 (bx : Nat) (pa : Option Addr) (S c : Nat) (n nx : Int) (ov : Value) (w : World) (hix : Ix w bx (.slice pa S c) n ov nx) :
    Calls Try.prog 19 #[.pointer (some ⟨bx, 0, none⟩)] w fun e w' => e = .returned (.int .i64 S) ∧ w' = w := by
  obtain ⟨c0, c1, c2, c3, f0, f1, f2, f3⟩ := hix
  go_enter Try.func19, Try.ntmps19
  go_wp2
  go_ret
  exact ⟨rfl, rfl⟩
theorem n31 (bx : Nat) (pv : Value) (n nx : Int) (ov : Value) (w : World) (hix : Ix w bx pv n ov nx) :
    Calls Try.prog 31 #[.pointer (some ⟨bx, 0, none⟩)] w fun e w' => e = .returned (.int .i64 n) ∧ w' = w := by
  obtain ⟨c0, c1, c2, c3, f0, f1, f2, f3⟩ := hix
  go_enter Try.func31, Try.ntmps31
  go_wp2
  go_ret
  exact ⟨rfl, rfl⟩
theorem oldlen35 (bx : Nat) (pv : Value) (n nx : Int) (oa : Option Addr) (O c : Nat) (w : World) (hix : Ix w bx pv n (.slice oa O c) nx) :
    Calls Try.prog 35 #[.pointer (some ⟨bx, 0, none⟩)] w fun e w' => e = .returned (.int .i64 O) ∧ w' = w := by
  obtain ⟨c0, c1, c2, c3, f0, f1, f2, f3⟩ := hix
  go_enter Try.func35, Try.ntmps35
  go_wp2
  go_ret
  exact ⟨rfl, rfl⟩
theorem next36 (bx : Nat) (pv : Value) (n nx : Int) (ov : Value) (w : World) (hix : Ix w bx pv n ov nx) :
    Calls Try.prog 36 #[.pointer (some ⟨bx, 0, none⟩)] w fun e w' => e = .returned (.int .i64 nx) ∧ w' = w := by
  obtain ⟨c0, c1, c2, c3, f0, f1, f2, f3⟩ := hix
  go_enter Try.func36, Try.ntmps36
  go_wp2
  go_ret
  exact ⟨rfl, rfl⟩
theorem hasold18 (bx : Nat) (pv : Value) (n nx : Int) (oa : Option Addr) (O c : Nat) (w : World) (hix : Ix w bx pv n (.slice oa O c) nx) :
    Calls Try.prog 18 #[.pointer (some ⟨bx, 0, none⟩)] w fun e w' => e = .returned (.bool oa.isSome) ∧ w' = w := by
  obtain ⟨c0, c1, c2, c3, f0, f1, f2, f3⟩ := hix
  cases oa <;>
  · go_enter Try.func18, Try.ntmps18
    go_wp2
    go_ret
    exact ⟨rfl, rfl⟩
end Go.Proofs.Qxb6601018a
