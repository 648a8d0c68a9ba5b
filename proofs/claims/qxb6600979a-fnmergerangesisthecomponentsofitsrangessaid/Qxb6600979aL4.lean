import Derived.Test.Qxb6600979aPK
namespace Go.Proofs.Qxb6600979a
open Go.RowKit
set_option linter.unusedVariables false

set_option maxHeartbeats 2000000 in
theorem zzmerge12 (B g N : Nat) (ys : List (Sl × Sl)) (zs : List Value) (w : World) (hown : w.ownsRow B 32 2 (.slice (some ⟨g, 0, none⟩) N N) N zs) (hf : Fill zs ys) (hl : ys.length = N) (hN : N * 48 ≤ 1048576) (hall : AllAt w ys) (hoff : ∀ p ∈ ys, Off g p.1 ∧ Off g p.2) :
    Calls Try.prog 12 #[.slice (some ⟨g, 0, none⟩) N N] w fun e w' => MrgR ys B g N w w' e := by
  have h := merge28 B g N ys zs w hown hf hl hN hall hoff
  clear hown hf hl hall hoff
  go_enter Try.func12, Try.ntmps12
  go_wp2_with fail
  refine h.mono ?_
  rintro e w' ⟨M, rfl, hM⟩
  go_wp2
  go_ret
  exact ⟨M, rfl, hM⟩

def anyK (l : List (Sl × Sl)) (k : List UInt8) : Bool := (l.map pl).any (hasK · k)
theorem anyK_next {l : List (Sl × Sl)} {j : Nat} {p : Sl × Sl} (h : l[j]? = some p) (k : List UInt8) : anyK (l.take (j + 1)) k = (anyK (l.take j) k || hasK (pl p) k) := by
  unfold anyK
  rw [List.take_add_one, h]
  simp

set_option maxHeartbeats 8000000 in
set_option maxRecDepth 8000 in
theorem law4 (a : Option Addr) (N c : Nat) (xs : List (Sl × Sl)) (ka : Option Addr) (kn kc : Nat) (kl : List UInt8) (w : World) (HN : Hid (N = xs.length)) (hN : N ≤ maxLen) (hkn : kn ≤ maxLen) (hr : RowR w a xs) (hl : Lens xs) (hnil : a = none → N = 0)
    (hx : ∀ p ∈ xs, (p.1.n ≤ 1048576 → SlAt w p.1) ∧ (p.2.n ≤ 1048576 → SlAt w p.2)) (hkk : kn ≤ 1048576 → SlAt w ⟨ka, kn, kc, kl⟩) :
    Calls Try.prog 4 #[.slice a N c, .slice ka kn kc] w fun e w' => e = .returned (.bool true) ∧ Below w.heap.size w w' := by
  have HR : Hid (RowR w a xs) := hr
  have HX : Hid (∀ p ∈ xs, (p.1.n ≤ 1048576 → SlAt w p.1) ∧ (p.2.n ≤ 1048576 → SlAt w p.2)) := hx
  have HKK : Hid (kn ≤ 1048576 → SlAt w ⟨ka, kn, kc, kl⟩) := hkk
  have HL : Hid (Lens xs) := hl
  have HNil : Hid (a = none → N = 0) := hnil
  clear hr hx hkk hl hnil
  have hkn' := hkn
  unfold maxLen at hkn'
  go_enter Try.func4, Try.ntmps4
  go_wp2_with fail
  refine (bytes19 a N c xs ka kn kc w HN hN hkn HR.out HL.out).mono ?_
  rintro e w' ⟨⟨r, rfl⟩, hw⟩
  rw [hw]
  clear hw
  cases r
  · go_wp2
    go_ret
    exact ⟨rfl, Below.refl _ _⟩
  rcases Nat.lt_or_ge 1048576 kn with hb1 | hb1
  · have i1 : (1048576 : Int) < kn := by omega
    go_wp2
    go_ret
    exact ⟨rfl, Below.refl _ _⟩
  have i1 : ¬ (1048576 : Int) < kn := by omega
  go_wp2_with fail
  refine (big9 a N c xs kn w HN hN hb1 HR.out HL.out).mono ?_
  rintro e w' ⟨⟨r, rfl, hbig⟩, nd1, hw⟩
  subst hw
  cases r
  case true => go_wp2; go_ret; exact ⟨rfl, below_drewN (Below.refl _ _) _⟩
  obtain ⟨hN48, hlens⟩ := hbig rfl
  have HAll : Hid (AllAt w xs) := fun p hp => ⟨(HX.out p hp).1 (hlens p hp).1, (HX.out p hp).2 (hlens p hp).2⟩
  clear hbig hlens
  obtain ⟨w0, hw0⟩ : ∃ w0, w0 = w.drewN nd1 := ⟨_, rfl⟩
  have HB0 : Hid (Below w.heap.size w w0) := by rw [hw0]; exact below_drewN (Below.refl _ _) _
  rw [← hw0]
  clear hw0
  have hz0 : w.heap.size ≤ w0.heap.size := HB0.out.size
  go_wp2_with fail
  refine (dup20 ⟨ka, kn, kc, kl⟩ w0 ((HKK.out hb1).below HB0.out)).mono ?_
  rintro e w1 ⟨⟨ja, jn, jc, jl⟩, rfl, hck⟩
  have HJl : Hid (jl = kl) := hck.l
  have HJ1 : Hid (SlAt w1 ⟨ja, jn, jc, jl⟩) := hck.at_
  have HB1 : Hid (Below w.heap.size w w1) := HB0.out.trans (hck.below.mono hz0)
  clear hck
  dsimp only [Sl.v]
  have hz1 : w.heap.size ≤ w1.heap.size := HB1.out.size
  go_wp2_with fail
  refine (dups11 a N c xs w1 HN hN48 (HR.out.below HB1.out) (HAll.out.below HB1.out) HNil.out).mono ?_
  rintro e w2 ⟨a2, c2, ys, rfl, hrow2, hall2, hpl2, hB2⟩
  have HRow2 : Hid (RowR w2 a2 ys) := hrow2
  have HAll2 : Hid (AllAt w2 ys) := hall2
  have HPl2 : Hid (ys.map pl = xs.map pl) := hpl2
  have HNy : Hid (N = ys.length) := by
    unfold Hid
    have := congrArg List.length hpl2
    rw [List.length_map, List.length_map] at this
    rw [this]; exact HN.out
  have HB2 : Hid (Below w.heap.size w w2) := HB1.out.trans (hB2.mono hz1)
  have HJ2 : Hid (SlAt w2 ⟨ja, jn, jc, jl⟩) := HJ1.out.below hB2
  clear hrow2 hall2 hpl2 hB2
  have hz2 : w.heap.size ≤ w2.heap.size := HB2.out.size
  go_wp2_with fail
  refine (tokey13 a2 N c2 ys w2 HNy hN48 HRow2.out HAll2.out).mono ?_
  rintro e w3 ⟨rfl, ys3, zs3, hown3, hfill3, hlen3, hcop3, hB3⟩
  obtain ⟨g, HG⟩ : ∃ g, Hid (g = w2.heap.size) := ⟨_, rfl⟩
  have hzg : w.heap.size ≤ g := by rw [HG.out]; exact hz2
  rw [← HG.out] at hown3 hcop3 ⊢
  have HPl3 : Hid (ys3.map pl = ys.map pl) := hcop3.pls
  have HB3 : Hid (Below w.heap.size w w3) := HB2.out.trans (hB3.mono hz2)
  have HB23 : Hid (Below w2.heap.size w2 w3) := hB3
  have hmrg := zzmerge12 g g N ys3 zs3 w3 (by rw [HG.out] at hown3 ⊢; exact hown3) hfill3 hlen3 hN48 hcop3.all (fun p hp => ⟨(hcop3.fr p hp).1.off (by omega), (hcop3.fr p hp).2.off (by omega)⟩)
  have hg3 : g ≤ w3.heap.size := by rw [HG.out]; exact hB3.size
  clear hown3 hfill3 hlen3 hcop3
  go_wp2_with fail
  refine hmrg.mono ?_
  rintro e w4 ⟨M, rfl, hML, hrow4, hall4, hB4, ys', hperm, hsort, hMe⟩
  have HKeys : Hid (anyK M jl = anyK ys jl) := by
    unfold Hid anyK
    rw [hMe, keys_law ys3 ys' hperm hsort jl, HPl3.out]
  have HB24 : Hid (Below w2.heap.size w2 w4) := HB23.out.trans (by rw [← HG.out]; exact hB4)
  have HB4 : Hid (Below w.heap.size w w4) := HB3.out.trans (hB4.mono hzg)
  have HJ4 : Hid (SlAt w4 ⟨ja, jn, jc, jl⟩) := HJ2.out.below HB24.out
  have HRow4 : Hid (RowR w4 a2 ys) := HRow2.out.below HB24.out
  have HAll4 : Hid (AllAt w4 ys) := HAll2.out.below HB24.out
  have HRowM : Hid (RowR w4 (some ⟨g, 0, none⟩) M) := hrow4
  have HAllM : Hid (AllAt w4 M) := hall4
  obtain ⟨L, HLM⟩ : ∃ L, Hid (M.length = L) := ⟨_, rfl⟩
  rw [HLM.out] at hML ⊢
  have hz4 : w.heap.size ≤ w4.heap.size := HB4.out.size
  clear hrow4 hall4 hB4 hmrg hperm hsort hMe hB3 HRow2 HAll2 HJ2 HJ1 HB23 HB24 HPl3 HB0 HB1 HB2 HB3 HAll HX HR HL HKK
  unfold maxLen at hN
  go_wp2_with fail
  go_loopw [6, 7] (fun v i wr => ∃ (k : Nat), k ≤ N ∧ i = .int .i64 k ∧ v = .bool (anyK (ys.take k) jl) ∧ Hid (∃ nd, wr = w4.drewN nd)) (fun v i _ => N - (intOf i).toNat)
  case atStart => exact ⟨0, by omega, rfl, rfl, 0, rfl⟩
  case round =>
    obtain ⟨k, hk, rfl, rfl, HD⟩ := hrel
    by_cases hlt : k < N
    · obtain ⟨p, hp⟩ : ∃ p, ys[k]? = some p := ⟨ys[k]'(by rw [← HNy.out]; exact hlt), by simp⟩
      obtain ⟨b, o, e, c1, c2'⟩ := HRow4.out k p hp
      subst e
      have hap := HAll4.out p (List.mem_of_getElem? hp)
      obtain ⟨nd, hnd⟩ := HD.out
      have hcon := fun n => holds21 p.1 p.2 ⟨ja, jn, jc, jl⟩ (wr.drewN n) (by rw [hnd]; exact (hap.1.drewN nd).drewN n) (by rw [hnd]; exact (hap.2.drewN nd).drewN n) (by rw [hnd]; exact (HJ4.out.drewN nd).drewN n)
      have c1 : wr.cell? ⟨b, o + k * 2, none⟩ = some p.1.v := by rw [hnd]; exact c1
      have c2' : wr.cell? ⟨b, o + k * 2 + 1, none⟩ = some p.2.v := by rw [hnd]; exact c2'
      clear hnd
      have hnext := anyK_next hp jl
      obtain ⟨hb, hhb⟩ : ∃ hb, hb = hasK (pl p) jl := ⟨_, rfl⟩
      have hb2 : hasK (p.1.l, p.2.pb) (Sl.l ⟨ja, jn, jc, jl⟩) = hb := hhb.symm
      rw [← hhb] at hnext
      have HNext : Hid (anyK (ys.take (k + 1)) jl = (anyK (ys.take k) jl || hb)) := hnext
      clear hp hap hhb hnext
      obtain ⟨⟨xa, xn, xc, xl⟩, ⟨ya, yn, yc, yl⟩⟩ := p
      simp only [hb2] at hcon
      unfold Sl.v at hcon c1 c2'
      simp only at hcon c1 c2'
      clear hb2
      have ik : (k : Int) < N := by omega
      cases hb
      · go_wp2
        go_quiet (first | (go_at_call 21; exact Calls.quiet_of (hcon _)))
        go_wp2
        go_roundw
        case rel => exact ⟨k + 1, by omega, by go_num, by rw [HNext.out, Bool.or_false], by obtain ⟨nd, hnd⟩ := HD.out; exact ⟨nd + nq, by rw [hnd, drewN_add]⟩⟩
        case measure => go_light; simp only [intOf]; omega
      · go_wp2
        go_quiet (first | (go_at_call 21; exact Calls.quiet_of (hcon _)))
        go_wp2
        go_roundw
        case rel => exact ⟨k + 1, by omega, by go_num, by rw [HNext.out, Bool.or_true], by obtain ⟨nd, hnd⟩ := HD.out; exact ⟨nd + nq, by rw [hnd, drewN_add]⟩⟩
        case measure => go_light; simp only [intOf]; omega
    · have hkN : k = N := by omega
      have HAny : Hid (anyK (ys.take k) jl = anyK M jl) := by
        unfold Hid
        rw [hkN, List.take_of_length_le (by rw [← HNy.out]; exact Nat.le_refl _), HKeys.out]
      have HB5 : Hid (Below w4.heap.size w4 wr) := by obtain ⟨nd, hnd⟩ := HD.out; rw [hnd]; exact below_drewN (Below.refl _ _) _
      obtain ⟨w6, hw6⟩ : ∃ w6, w6 = wr := ⟨_, rfl⟩
      rw [← hw6] at HB5 ⊢
      clear hw6 HD hkN
      generalize anyK (ys.take k) jl = bef at HAny ⊢
      go_wp2
      go_loopg [8, 9] L (fun gk v i wr => ∃ (q : Nat), gk + q = L ∧ i = .int .i64 q ∧ v = .bool (anyK (M.take q) jl) ∧ Hid (Below w4.heap.size w4 wr))
      case atStart => exact ⟨0, by omega, rfl, rfl, HB5⟩
      case round =>
        obtain ⟨q, hq, rfl, rfl, HBr⟩ := hrel
        obtain ⟨G, rfl⟩ : ∃ G, G = gk := ⟨_, rfl⟩
        by_cases hlq : q < L
        · obtain ⟨p, hp⟩ : ∃ p, M[q]? = some p := ⟨M[q]'(by rw [HLM.out]; exact hlq), by simp⟩
          obtain ⟨b, o, e, c1, c2'⟩ := HRowM.out q p hp
          have hbl : b < w4.heap.size := World.block_lt_of_cell? w4 _ c1
          simp only [Option.some.injEq, Addr.mk.injEq, and_true] at e
          obtain ⟨rfl, rfl⟩ := e
          replace c1 := (HBr.out.cell (p := ⟨g, 0 + q * 2, none⟩) hbl).trans c1
          replace c2' := (HBr.out.cell (p := ⟨g, 0 + q * 2 + 1, none⟩) hbl).trans c2'
          have hap := HAllM.out p (List.mem_of_getElem? hp)
          have hcon : ∀ W, Below w4.heap.size w4 W → Calls Try.prog 21 #[p.1.v, p.2.v, Sl.v ⟨ja, jn, jc, jl⟩] W fun e w' => e = .returned (.bool (hasK (pl p) jl)) ∧ ∃ n, w' = W.drewN n := fun W hW => holds21 p.1 p.2 ⟨ja, jn, jc, jl⟩ W (hap.1.below hW) (hap.2.below hW) (HJ4.out.below hW)
          have hf14 := fun W => from14 p W
          have ht15 := fun W => to15 p W
          have hnext := anyK_next hp jl
          obtain ⟨hb, hhb⟩ : ∃ hb, hb = hasK (pl p) jl := ⟨_, rfl⟩
          rw [← hhb] at hnext hcon
          have HNext : Hid (anyK (M.take (q + 1)) jl = (anyK (M.take q) jl || hb)) := hnext
          clear hp hap hhb hnext
          obtain ⟨⟨xa, xn, xc, xl⟩, ⟨ya, yn, yc, yl⟩⟩ := p
          unfold rv at hf14 ht15
          unfold Sl.v at hcon c1 c2' hf14 ht15
          simp only [Nat.zero_add] at hcon c1 c2' hf14 ht15
          have iq : (q : Int) < L := by omega
          have hzr : w4.heap.size ≤ wr.heap.size := HBr.out.size
          have hgw : g < wr.heap.size := by omega
          have hgw1 : g < wr.heap.size + 1 := by omega
          have hgw2 : g < wr.heap.size + 1 + 1 := by omega
          have hBc : ∀ o1 o2, Below w4.heap.size w4 ((wr.alloc o1).alloc o2).drew := fun o1 o2 => ((HBr.out.alloc hzr o1).alloc (by simp; omega) o2).drew
          cases hb
          · go_wp2
            go_region_held3 (fun w' => w'.cell? ⟨g, q * 2, none⟩ = some (.slice xa xn xc) ∧ w'.cell? ⟨g, q * 2 + 1, none⟩ = some (.slice ya yn yc)) (simp [go_sem, World.cell?_alloc_past, *]) (first
              | (go_at_call 14; refine (hf14 _).mono ?_; rintro e w' ⟨rfl, o1, rfl⟩)
              | (go_at_call 15; refine (ht15 _).mono ?_; rintro e w' ⟨rfl, o2, rfl⟩)
              | (go_at_call 21; refine (hcon _ (hBc _ _)).mono ?_; rintro e w' ⟨rfl, n3, rfl⟩))
            all_goals
              go_wp2
              go_roundg (G - 1)
              case rel => exact ⟨q + 1, by omega, by go_num, by rw [HNext.out, Bool.or_false], below_drewN ((HBr.out.alloc hzr _).alloc (by simp; omega) _) _⟩
              case measure => omega
          · go_wp2
            go_region_held3 (fun w' => w'.cell? ⟨g, q * 2, none⟩ = some (.slice xa xn xc) ∧ w'.cell? ⟨g, q * 2 + 1, none⟩ = some (.slice ya yn yc)) (simp [go_sem, World.cell?_alloc_past, *]) (first
              | (go_at_call 14; refine (hf14 _).mono ?_; rintro e w' ⟨rfl, o1, rfl⟩)
              | (go_at_call 15; refine (ht15 _).mono ?_; rintro e w' ⟨rfl, o2, rfl⟩)
              | (go_at_call 21; refine (hcon _ (hBc _ _)).mono ?_; rintro e w' ⟨rfl, n3, rfl⟩))
            all_goals
              go_wp2
              go_roundg (G - 1)
              case rel => exact ⟨q + 1, by omega, by go_num, by rw [HNext.out, Bool.or_true], below_drewN ((HBr.out.alloc hzr _).alloc (by simp; omega) _) _⟩
              case measure => omega
        · have hqL : q = L := by omega
          have e2 : anyK (M.take q) jl = bef := by rw [hqL, List.take_of_length_le (by rw [HLM.out]; exact Nat.le_refl _), HAny.out]
          rw [e2]
          clear e2 hqL
          cases bef
          · go_wp2
            go_ret
            exact ⟨rfl, HB4.out.trans (HBr.out.mono hz4)⟩
          · go_wp2
            go_ret
            exact ⟨rfl, HB4.out.trans (HBr.out.mono hz4)⟩
end Go.Proofs.Qxb6600979a
