import Derived.Test.Qxb6600979aV1
namespace Go.Proofs.Qxb6600979a
open Go.RowKit
set_option linter.unusedVariables false

def ProperR (xs : List (Sl × Sl)) (e : Ending) : Prop := ∃ b : Bool, e = .returned (.bool b) ∧ (b = true → ∀ p ∈ xs, Proper (pl p))

set_option maxHeartbeats 4000000 in
theorem proper10 (a : Option Addr) (N c : Nat) (xs : List (Sl × Sl)) (w : World) (HN : Hid (N = xs.length)) (hN : N ≤ 1048576) (hr : RowR w a xs) (ha : AllAt w xs) :
    Calls Try.prog 10 #[.slice a N c] w fun e w' => ProperR xs e ∧ ∃ n, w' = w.drewN n := by
  have HR : Hid (RowR w a xs) := hr
  have HA : Hid (AllAt w xs) := ha
  clear hr ha
  go_enter Try.func10, Try.ntmps10
  go_wp2
  go_loopw [3] (fun i wr => ∃ (k : Nat), k ≤ N ∧ i = .int .i64 k ∧ Hid (∀ j p, j < k → xs[j]? = some p → Proper (pl p)) ∧ Hid (∃ nd, wr = w.drewN nd)) (fun i _ => N - (intOf i).toNat)
  case atStart => exact ⟨0, by omega, rfl, fun j p h => (by omega), 0, rfl⟩
  case round =>
    obtain ⟨k, hk, rfl, HPr, HD⟩ := hrel
    by_cases hlt : k < N
    · obtain ⟨p, hp⟩ : ∃ p, xs[k]? = some p := ⟨xs[k]'(by rw [← HN.out]; exact hlt), by simp⟩
      obtain ⟨b, o, e, c1, c2⟩ := HR.out k p hp
      subst e
      obtain ⟨nd, hnd⟩ := HD.out
      have hap := HA.out p (List.mem_of_getElem? hp)
      have hcon := fun n => cmpb16 p.1 p.2 (wr.drewN n) (by rw [hnd]; exact (hap.1.drewN nd).drewN n) (by rw [hnd]; exact (hap.2.drewN nd).drewN n)
      have c1 : wr.cell? ⟨b, o + k * 2, none⟩ = some p.1.v := by rw [hnd]; exact c1
      have c2 : wr.cell? ⟨b, o + k * 2 + 1, none⟩ = some p.2.v := by rw [hnd]; exact c2
      have HP : Hid (xs[k]? = some p) := hp
      have HY : Hid (SlAt w p.2) := hap.2
      have ik : (k : Int) < N := by omega
      clear hnd hp hap
      obtain ⟨⟨xa, xn, xc, xl⟩, ⟨ya, yn, yc, yl⟩⟩ := p
      have hnextP : Proper (pl ((⟨xa, xn, xc, xl⟩ : Sl), (⟨ya, yn, yc, yl⟩ : Sl))) → Hid (∀ j p, j < k + 1 → xs[j]? = some p → Proper (pl p)) := fun h j p hj hjp => by
        by_cases e : j = k
        · subst e
          rw [HP.out] at hjp
          cases hjp
          exact h
        · exact HPr.out j p (by omega) hjp
      have HNx : Hid (Proper (pl ((⟨xa, xn, xc, xl⟩ : Sl), (⟨ya, yn, yc, yl⟩ : Sl))) → Hid (∀ j p, j < k + 1 → xs[j]? = some p → Proper (pl p))) := hnextP
      clear hnextP
      cases ya with
      | none =>
        have hpr : Proper (pl ((⟨xa, xn, xc, xl⟩ : Sl), (⟨none, yn, yc, yl⟩ : Sl))) := fun u hu => by cases hu
        have HPP : Hid (Proper (pl ((⟨xa, xn, xc, xl⟩ : Sl), (⟨none, yn, yc, yl⟩ : Sl)))) := hpr
        clear hpr hcon
        unfold Sl.v at c1 c2
        simp only at c1 c2
        go_wp2
        go_quiet (fail)
        go_wp2
        go_roundw
        case rel => exact ⟨k + 1, by omega, by go_num, HNx.out HPP.out, by obtain ⟨nd, hnd⟩ := HD.out; exact ⟨nd + nq, by rw [hnd, drewN_add]⟩⟩
        case measure => go_light; simp only [intOf]; omega
      | some ya =>
        obtain ⟨r1, hr1⟩ : ∃ r, r = cb xl yl := ⟨_, rfl⟩
        simp only [← hr1] at hcon
        by_cases hle : 0 < r1
        · unfold Sl.v at c1 c2 hcon
          simp only at c1 c2 hcon
          clear hr1
          go_wp2
          go_quiet (first | (go_at_call 16; exact Calls.quiet_of (hcon _)))
          go_wp2
          go_ret
          exact ⟨⟨false, rfl, fun h => (by cases h)⟩, by obtain ⟨nd, hnd⟩ := HD.out; exact ⟨nd + nq, by rw [hnd, drewN_add]⟩⟩
        · have hpr : Proper (pl ((⟨xa, xn, xc, xl⟩ : Sl), (⟨some ya, yn, yc, yl⟩ : Sl))) := fun u hu => by
            have : u = yl := by
              have h' : some yl = some u := hu
              cases h'; rfl
            subst this
            show cb xl u ≤ 0
            rw [← hr1]; omega
          have HPP : Hid (Proper (pl ((⟨xa, xn, xc, xl⟩ : Sl), (⟨some ya, yn, yc, yl⟩ : Sl)))) := hpr
          unfold Sl.v at c1 c2 hcon
          simp only at c1 c2 hcon
          clear hr1 hpr
          go_wp2
          go_quiet (first | (go_at_call 16; exact Calls.quiet_of (hcon _)))
          go_wp2
          go_roundw
          case rel => exact ⟨k + 1, by omega, by go_num, HNx.out HPP.out, by obtain ⟨nd, hnd⟩ := HD.out; exact ⟨nd + nq, by rw [hnd, drewN_add]⟩⟩
          case measure => go_light; simp only [intOf]; omega
    · have hkN : k = N := by omega
      have HAll : Hid (∀ p ∈ xs, Proper (pl p)) := fun p hp => by
        obtain ⟨j, hj, e⟩ := List.getElem_of_mem hp
        exact HPr.out j p (by rw [hkN, HN.out]; exact hj) (by rw [List.getElem?_eq_getElem hj, e])
      clear hkN
      go_wp2
      go_ret
      exact ⟨⟨true, rfl, fun _ => HAll.out⟩, HD.out⟩
end Go.Proofs.Qxb6600979a
