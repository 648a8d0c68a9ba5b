import Derived.Test.Qxb6602907aW7
import Derived.Test.Qxb6602907aScr2
namespace Go.Proofs.Qxb6602907a
open Go.RowKit
set_option linter.unusedVariables false

theorem line16' (s : ByteArray) (b o n c : Nat) (z : List Int) (i : Int) (w : World) (hI : I32At w b o z) (hz : z.length = n) (hT : TextOK s z) (hn : n ≤ 1048576) (hs : s.size ≤ 1048576)
    (h0 : 0 ≤ i) (hj : i + 1 < n) :
    Calls Try.prog 16 #[.string s, .slice (some ⟨b, o, none⟩) n c, .int .i64 i] w fun e w' =>
      e = .returned (.string (segI s z i (i + 1))) ∧ ∃ n, w' = w.drewN n := by
  obtain ⟨i', rfl⟩ : ∃ i' : Nat, i = (i' : Int) := ⟨i.toNat, by omega⟩
  have h1 := hT.bd i' (by omega)
  have h2 := hT.bd (i' + 1) (by omega)
  have h3 := hT.mono (i' + 1) i' (by omega) (by omega)
  exact line16 s b o n c i' (z.getD i' 0) (z.getD (i' + 1) 0) w (by omega) hn (hI i' (by omega)) (hI (i' + 1) (by omega)) h1.1 h3 h2.2 hs

theorem owns_len {w : World} {base : Nat} {e : TypeId} {size : Nat} {v : Value} {n : Nat} {xs : List Value} (h : w.ownsRow base e size v n xs) : ∃ a c, v = .slice a n c := by
  rcases h.2 with ⟨rfl, rfl⟩ | ⟨g, cap, cur, rfl, _⟩ <;> exact ⟨_, _, rfl⟩
theorem owns_max {w : World} {base : Nat} {e : TypeId} {size : Nat} {v : Value} {n : Nat} {xs : List Value} (h : w.ownsRow base e size v n xs) : n ≤ maxLen := by
  rcases h.2 with ⟨_, rfl⟩ | ⟨g, cap, cur, _, _, _, h1, h2, _⟩
  · unfold maxLen; omega
  · omega
theorem owns_at {w : World} {base : Nat} {e : TypeId} {a : Option Addr} {n c : Nat} {xs : List Value} (h : w.ownsRow base e 1 (.slice a n c) n xs) (hn : 0 < n) : ∃ g, a = some ⟨g, 0, none⟩ ∧ g < w.heap.size ∧ ∀ j, j < n → w.cell? ⟨g, j, none⟩ = xs[j]? := by
  obtain ⟨g, cap, he, hb, hlt⟩ := h.form hn
  have h1 : a = some ⟨g, 0, none⟩ ∧ c = cap := by simpa using he
  obtain ⟨rfl, rfl⟩ := h1
  exact ⟨g, rfl, hlt, fun j hj => h.cellAt j (by omega)⟩

theorem toList_beq (a b : ByteArray) : (a.toList == b.toList) = true ↔ a = b := by
  rw [Go.ByteArray.toList_eq, Go.ByteArray.toList_eq]
  constructor
  · intro h
    have h' : a.data.toList = b.data.toList := by simpa using h
    cases a; cases b
    simp at h'
    rw [h']
  · rintro rfl; simp

set_option maxHeartbeats 4000000 in
set_option maxRecDepth 8000 in
theorem agree13 (s1 s2 : ByteArray) (b1 o1 n1 c1 b2 o2 n2 c2 : Nat) (z1 z2 : List Int) (ao : Option Addr) (N cap : Nat) (cs : List Ch) (w : World)
    (hI1 : I32At w b1 o1 z1) (HZ1 : Hid (z1.length = n1)) (hT1 : TextOK s1 z1) (hI2 : I32At w b2 o2 z2) (HZ2 : Hid (z2.length = n2)) (hT2 : TextOK s2 z2)
    (hn1 : n1 ≤ 1048576) (hn2 : n2 ≤ 1048576) (hp1 : 0 < n1) (hp2 : 0 < n2) (hs1 : s1.size ≤ 1048576) (hs2 : s2.size ≤ 1048576)
    (hc : ChAt w ao cs) (HN : Hid (N = cs.length)) (hN : N ≤ 1048576) (hok : COK ((n1 : Int) - 1) ((n2 : Int) - 1) true 0 0 cs) :
    Calls Try.prog 13 #[.string s1, .slice (some ⟨b1, o1, none⟩) n1 c1, .string s2, .slice (some ⟨b2, o2, none⟩) n2 c2, .slice ao N cap] w fun e w' =>
      BoolTo (Agree s1 z1 s2 z2 (scr ((n1 : Int) - 1) cs 0 0)) e ∧ Below w.heap.size w w' := by
  have HI1 : Hid (I32At w b1 o1 z1 ∧ TextOK s1 z1) := ⟨hI1, hT1⟩
  have HI2 : Hid (I32At w b2 o2 z2 ∧ TextOK s2 z2) := ⟨hI2, hT2⟩
  have HC : Hid (ChAt w ao cs) := hc
  have HOK : Hid (COK ((n1 : Int) - 1) ((n2 : Int) - 1) true 0 0 cs) := hok
  have HLK := scr_ok cs true 0 0 hok (by omega) (by omega) (by omega) (fun _ => by omega)
  obtain ⟨l, HL⟩ : ∃ l, Hid (l = scr ((n1 : Int) - 1) cs 0 0) := ⟨_, rfl⟩
  rw [← HL.out] at HLK ⊢
  have HLO : Hid (∀ x ∈ l, LineOK ((n1 : Int) - 1) ((n2 : Int) - 1) x) := HLK
  clear hI1 hT1 hI2 hT2 hc hok HLK
  go_enter Try.func13, Try.ntmps13
  go_wp2_with (go_at_call 15; refine (script15 ((n1 : Int) - 1) ((n2 : Int) - 1) ao N cap cs _ HN hN (by omega) (by omega) HC.out HOK.out).mono ?_; rintro e ws ⟨vo, vf, vt, rfl, hR3, hBs⟩)
  have HB : Hid (Below w.heap.size w ws) := hBs
  rw [← HL.out] at hR3
  have HR3 : Hid (Rows3 ws w.heap.size vo vf vt l) := hR3
  clear hBs hR3
  obtain ⟨ao1, co1, rfl⟩ := owns_len HR3.out.1
  obtain ⟨af1, cf1, rfl⟩ := owns_len HR3.out.2.1
  obtain ⟨at1, ct1, rfl⟩ := owns_len HR3.out.2.2.1
  obtain ⟨K, HK⟩ : ∃ K, Hid (K = l.length) := ⟨_, rfl⟩
  rw [← HK.out] at HR3 ⊢
  have hKb : K ≤ 9223372036854775807 := by have := owns_max HR3.out.1; rw [← HK.out] at this; unfold maxLen at this; omega
  go_loopg [14] K (fun gk vp wr => ∃ (p nd : Nat), gk + p = K ∧ vp = .int .i64 p ∧ Hid (∀ q x, q < p → l[q]? = some x → x.1 = 32 → segI s1 z1 x.2.1 (x.2.1 + 1) = segI s2 z2 x.2.2 (x.2.2 + 1)) ∧ wr = ws.drewN nd)
  case atStart => exact ⟨0, 0, by omega, rfl, fun q x h => (by omega), rfl⟩
  case round =>
    obtain ⟨p, nd, hp, rfl, HA, hwr⟩ := hrel
    have HWr : Hid (wr = ws.drewN nd) := hwr
    clear hwr
    by_cases hlt : p < K
    · obtain ⟨x, hx⟩ : ∃ x, l[p]? = some x := ⟨l[p]'(by rw [← HK.out]; exact hlt), by simp⟩
      have hxo := HLO.out x (List.mem_of_getElem? hx)
      have HX : Hid (l[p]? = some x) := hx
      obtain ⟨r1, r2, r3, r4⟩ := HR3.out
      unfold opCells at r1; unfold fiCells at r2; unfold tiCells at r3
      rw [← HK.out] at r1 r2 r3
      obtain ⟨g1, rfl, k1, m1⟩ := owns_at r1 (by omega)
      obtain ⟨g2, rfl, k2, m2⟩ := owns_at r2 (by omega)
      obtain ⟨g3, rfl, k3, m3⟩ := owns_at r3 (by omega)
      replace m1 := m1 p hlt
      replace m2 := m2 p hlt
      replace m3 := m3 p hlt
      simp only [List.getElem?_map, hx, Option.map_some] at m1 m2 m3
      replace m1 : wr.cell? ⟨g1, p, none⟩ = some (.int .u8 x.1) := by rw [HWr.out]; exact m1
      replace m2 : wr.cell? ⟨g2, p, none⟩ = some (.int .i64 x.2.1) := by rw [HWr.out]; exact m2
      replace m3 : wr.cell? ⟨g3, p, none⟩ = some (.int .i64 x.2.2) := by rw [HWr.out]; exact m3
      clear r1 r2 r3 r4 hx
      obtain ⟨op, fi, ti⟩ := x
      unfold LineOK at hxo
      simp only at m1 m2 m3 hxo
      have ip : (p : Int) < K := by omega
      have HIs1 : Hid (I32At wr b1 o1 z1) := HI1.out.1.below (by rw [HWr.out]; exact below_drewN HB.out _) (HI1.out.1.lt (by rw [HZ1.out]; omega))
      have HIs2 : Hid (I32At wr b2 o2 z2) := HI2.out.1.below (by rw [HWr.out]; exact below_drewN HB.out _) (HI2.out.1.lt (by rw [HZ2.out]; omega))
      by_cases ho : op = 32
      · subst ho
        have hf : 0 ≤ fi ∧ fi + 1 < n1 ∧ 0 ≤ ti ∧ ti + 1 < n2 := by omega
        obtain ⟨f1, f2, f3, f4⟩ := hf
        clear hxo
        go_wp2
        go_quiet (first
          | (go_at_call_of 16 s1; refine Calls.quiet_of (line16' s1 b1 o1 n1 c1 z1 fi _ (by exact HIs1.out) HZ1.out HI1.out.2 hn1 hs1 f1 f2))
          | (go_at_call_of 16 s2; refine Calls.quiet_of (line16' s2 b2 o2 n2 c2 z2 ti _ (by exact HIs2.out) HZ2.out HI2.out.2 hn2 hs2 f3 f4)))
        go_wp2
        · go_ret
          exact ⟨BoolTo.no, by rw [HWr.out]; exact below_drewN (below_drewN HB.out _) _⟩
        · rename_i hbq
          have heq : segI s1 z1 fi (fi + 1) = segI s2 z2 ti (ti + 1) := (toList_beq _ _).1 (by simpa using hbq)
          go_roundg (gk - 1)
          case measure => omega
          case rel => exact ⟨p + 1, _, by omega, by go_num, fun q x hq hx h32 => by
              by_cases he : q < p
              · exact HA.out q x he hx h32
              · obtain rfl : q = p := by omega
                rw [HX.out] at hx
                cases hx
                exact heq, by rw [HWr.out]; exact drewN_add _ _ _⟩
      · have hb : ((op : Int) == 32) = false := by simpa using ho
        clear hxo
        go_wp2
        go_quiet (fail)
        go_wp2
        go_roundg (gk - 1)
        case measure => omega
        case rel => exact ⟨p + 1, _, by omega, by go_num, fun q x hq hx h32 => by
            by_cases he : q < p
            · exact HA.out q x he hx h32
            · obtain rfl : q = p := by omega
              rw [HX.out] at hx
              cases hx
              exact absurd h32 ho, by rw [HWr.out]; exact drewN_add _ _ _⟩
    · go_wp2
      go_ret
      refine ⟨BoolTo.mk' fun _ => ?_, by rw [HWr.out]; exact below_drewN HB.out _⟩
      intro x hx h32
      obtain ⟨q, hq, rfl⟩ := List.getElem_of_mem hx
      exact HA.out q _ (by rw [← HK.out] at hq; omega) (by simp) h32
end Go.Proofs.Qxb6602907a
