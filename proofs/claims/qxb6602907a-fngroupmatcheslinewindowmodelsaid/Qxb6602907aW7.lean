import Derived.Test.Qxb6602907aW5
import Derived.Test.Qxb6602907aScr
import Derived.Deep.CutBlock
import Derived.Deep.DeepCutAuto
import Derived.Deep.LoopGhost
namespace Go.Proofs.Qxb6602907a
open Go.RowKit
set_option linter.unusedVariables false

def opCells (l : List (Int × Int × Int)) : List Value := l.map fun x => .int .u8 x.1
def fiCells (l : List (Int × Int × Int)) : List Value := l.map fun x => .int .i64 x.2.1
def tiCells (l : List (Int × Int × Int)) : List Value := l.map fun x => .int .i64 x.2.2

/-- Three rows of the call's own hold the script. -/
def Rows3 (w : World) (base : Nat) (vo vf vt : Value) (l : List (Int × Int × Int)) : Prop :=
  w.ownsRow base 5 1 vo l.length (opCells l) ∧ w.ownsRow base 3 1 vf l.length (fiCells l) ∧ w.ownsRow base 3 1 vt l.length (tiCells l) ∧ (vf.ownBlock = none ∨ vf.ownBlock ≠ vt.ownBlock)

theorem Rows3.nil (w : World) (base : Nat) : Rows3 w base (.slice none 0 0) (.slice none 0 0) (.slice none 0 0) [] :=
  ⟨World.ownsRow_nil _ _ _ _, World.ownsRow_nil _ _ _ _, World.ownsRow_nil _ _ _ _, .inl rfl⟩

theorem Rows3.second {w w1 : World} {base : Nat} {vo vf vt : Value} {l : List (Int × Int × Int)} {o1 : Obj} (h : Rows3 w base vo vf vt l) (hg1 : (w.alloc o1).grownBy w1 vo.ownBlock) :
    w1.ownsRow base 3 1 vf l.length (fiCells l) := (h.2.1.alloc o1).kept hg1 (owns_apart h.2.1 h.1 (by decide))

theorem Rows3.third {w w1 w2 : World} {base : Nat} {vo vf vt : Value} {l : List (Int × Int × Int)} {o1 o2 : Obj} (h : Rows3 w base vo vf vt l) (hg1 : (w.alloc o1).grownBy w1 vo.ownBlock) (hg2 : (w1.alloc o2).grownBy w2 vf.ownBlock) :
    w2.ownsRow base 3 1 vt l.length (tiCells l) := by
  have h1 := (h.2.2.1.alloc o1).kept hg1 (owns_apart h.2.2.1 h.1 (by decide))
  refine (h1.alloc o2).kept hg2 ?_
  rcases h.2.2.2 with hn | hn
  · rw [hn]
    cases hv : vt.ownBlock
    · exact .inl rfl
    · exact .inr (by simp)
  · exact .inr (Ne.symm hn)

/-- One line more. -/
theorem Rows3.push {w w1 w2 w3 : World} {base : Nat} {vo vf vt vo' vf' vt' : Value} {l : List (Int × Int × Int)} {x : Int × Int × Int} {o1 o2 o3 : Obj} (h : Rows3 w base vo vf vt l) (hb : base ≤ w.heap.size)
    (ho1 : w1.ownsRow base 5 1 vo' (l.length + 1) (opCells l ++ [.int .u8 x.1])) (hg1 : (w.alloc o1).grownBy w1 vo.ownBlock)
    (ho2 : w2.ownsRow base 3 1 vf' (l.length + 1) (fiCells l ++ [.int .i64 x.2.1])) (hg2 : (w1.alloc o2).grownBy w2 vf.ownBlock) (hat2 : vf'.ownBlock = vf.ownBlock ∨ vf'.ownBlock = some (w1.alloc o2).heap.size)
    (ho3 : w3.ownsRow base 3 1 vt' (l.length + 1) (tiCells l ++ [.int .i64 x.2.2])) (hg3 : (w2.alloc o3).grownBy w3 vt.ownBlock) (hat3 : vt'.ownBlock = vt.ownBlock ∨ vt'.ownBlock = some (w2.alloc o3).heap.size) :
    Rows3 w3 base vo' vf' vt' (l ++ [x]) ∧ Below base w w3 ∧ ∀ (k : Nat) (cs : Array Value) (e : TypeId) (fr : Nat × Nat), e ≠ 5 → e ≠ 3 → w.heap[k]? = some (.cells cs e fr) → w3.heap[k]? = some (.cells cs e fr) := by
  have hS2 := h.second hg1
  have hS3 := h.third hg1 hg2
  have z1 := hg1.size
  have z2 := hg2.size
  have z3 := hg3.size
  simp only [World.size_alloc] at z1 z2 z3
  have lf := fun k hk => (World.ownsRow.lt hS2 k hk)
  have lt := fun k hk => (World.ownsRow.lt hS3 k hk)
  have lo := fun k hk => (World.ownsRow.lt h.1 k hk)
  -- the row of vf' stands apart from vt's
  have a1 : vf'.ownBlock = none ∨ vf'.ownBlock ≠ vt.ownBlock := by
    rcases hat2 with e | e
    · rw [e]; exact h.2.2.2
    · right
      rw [e]
      intro e'
      have := (World.ownsRow.lt h.2.2.1 _ e'.symm).2
      simp only [World.size_alloc] at this
      omega
  refine ⟨⟨?_, ?_, ?_, ?_⟩, ?_, ?_⟩
  · have := (ho1.alloc o2).kept hg2 (owns_apart ho1 hS2 (by decide))
    have := (this.alloc o3).kept hg3 (owns_apart this hS3 (by decide))
    simpa [opCells] using this
  · have := (ho2.alloc o3).kept hg3 a1
    simpa [fiCells] using this
  · simpa [tiCells] using ho3
  · rcases hat3 with e | e
    · rw [e]; exact a1
    · right
      rw [e]
      intro e'
      have := (World.ownsRow.lt ho2 _ e').2
      simp only [World.size_alloc] at this
      omega
  · refine (((((((Below.refl base w).alloc hb o1).grown hg1 (by simp only [World.size_alloc]; omega) (fun k hk => (lo k hk).1)).alloc (by omega) o2).grown hg2 (by simp only [World.size_alloc]; omega) (fun k hk => (lf k hk).1)).alloc (by omega) o3).grown hg3 (by simp only [World.size_alloc]; omega) (fun k hk => (lt k hk).1))
  · intro k cs e fr h5 h3 hk
    have hlt : k < w.heap.size := (Array.getElem?_eq_some_iff.1 hk).1
    have ne : ∀ {W : World} {b : Nat} {e' : TypeId} {z : Nat} {v : Value} {n : Nat} {ys : List Value}, W.ownsRow b e' z v n ys → e ≠ e' → W.heap[k]? = some (.cells cs e fr) → some k ≠ v.ownBlock := by
      intro W b e' z v n ys hw hne hk' he
      rcases hw.2 with ⟨rfl, _⟩ | ⟨g, cap, cur, rfl, _, hg, _⟩
      · simp [Value.ownBlock] at he
      · simp [Value.ownBlock] at he
        subst he
        rw [hk'] at hg
        simp at hg
        exact hne hg.2.1
    have k1 : w1.heap[k]? = some (.cells cs e fr) := by
      rw [hg1.block k (by simp only [World.size_alloc]; omega) (ne h.1 h5 hk), Below.heap_alloc _ _ _ hlt]; exact hk
    have k2 : w2.heap[k]? = some (.cells cs e fr) := by
      rw [hg2.block k (by simp only [World.size_alloc]; omega) (ne hS2 h3 k1), Below.heap_alloc _ _ _ (by omega)]; exact k1
    rw [hg3.block k (by simp only [World.size_alloc]; omega) (ne hS3 h3 k2), Below.heap_alloc _ _ _ (by omega)]; exact k2

theorem chis_of_block40 {w : World} {k : Nat} {c : Ch} (h : w.heap[k]? = some (.cells #[.int .i64 c.i0, .int .i64 c.i1, .int .i64 c.j0, .int .i64 c.j1] 40 (0, 0))) : ChIs w k 0 c := by
  refine ⟨?_, ?_, ?_, ?_⟩ <;> simp [World.cell?, h]


set_option maxHeartbeats 4000000 in
set_option maxRecDepth 8000 in
theorem script15 (nF nT : Int) (a : Option Addr) (N cap : Nat) (cs : List Ch) (w : World) (HN : Hid (N = cs.length)) (hn : N ≤ 1048576) (hF : 0 ≤ nF ∧ nF ≤ 1048576) (hT : 0 ≤ nT ∧ nT ≤ 1048576) (hc : ChAt w a cs) (hok : COK nF nT true 0 0 cs) :
    Calls Try.prog 15 #[.int .i64 nF, .slice a N cap] w fun e w' => ∃ vo vf vt, e = .returned (.tuple #[vo, vf, vt]) ∧ Rows3 w' w.heap.size vo vf vt (scr nF cs 0 0) ∧ Below w.heap.size w w' := by
  have HC : Hid (ChAt w a cs) := hc
  have HOK : Hid (COK nF nT true 0 0 cs) := hok
  clear hc hok
  obtain ⟨i5, h50, h51, h52, h53⟩ := info_parts Try.info5
  obtain ⟨i3, h30, h31, h32, h33⟩ := info_parts Try.info3
  go_enter Try.func15, Try.ntmps15
  go_upto_block 0 with fail
  go_cut [7, 8, 9, 10, 11] (fun vo vf vt vi vj wc => ∃ (i j : Int) (l : List (Int × Int × Int)), vi = .int .i64 i ∧ vj = .int .i64 j ∧ 0 ≤ i ∧ i ≤ nF ∧ 0 ≤ j ∧ nF - i ≤ nT - j ∧ nT - j ≤ nF - i ∧ Hid (Rows3 wc w.heap.size vo vf vt l) ∧ Hid (l ++ scr nF [] i j = scr nF cs 0 0) ∧ (l.length : Int) ≤ i + j ∧ Hid (Below w.heap.size w wc))
  case first =>
    go_wp2
    go_loopg [7, 8, 9, 10, 11, 12] N (fun gk vo vf vt vi vj vk wr => ∃ (k : Nat) (fst : Bool) (i j : Int) (l : List (Int × Int × Int)), gk + k = N ∧ vk = .int .i64 k ∧ vi = .int .i64 i ∧ vj = .int .i64 j ∧ 0 ≤ i ∧ i ≤ nF ∧ 0 ≤ j ∧ j ≤ nT ∧ Hid (Rows3 wr w.heap.size vo vf vt l) ∧
      Hid (l ++ scr nF (cs.drop k) i j = scr nF cs 0 0) ∧ Hid (COK nF nT fst i j (cs.drop k)) ∧ (l.length : Int) ≤ i + j ∧ Hid (Below w.heap.size w wr) ∧ (fst = true → i ≤ 0))
    case atStart => exact ⟨0, true, 0, 0, [], by omega, rfl, rfl, rfl, by omega, by omega, by omega, by omega, Rows3.nil _ _, rfl, HOK, by simp, Below.refl _ _, fun _ => by omega⟩
    case round =>
      obtain ⟨vo, rfl⟩ : ∃ vo, vo = u7 := ⟨_, rfl⟩
      obtain ⟨vf, rfl⟩ : ∃ vf, vf = u8 := ⟨_, rfl⟩
      obtain ⟨vt, rfl⟩ : ∃ vt, vt = u9 := ⟨_, rfl⟩
      obtain ⟨k, fst, i, j, l, hk, rfl, rfl, rfl, hi0, hi1, hj0, hj1, HR3, HS, HO, hll, HB, hfst⟩ := hrel
      obtain ⟨G, rfl⟩ : ∃ G, G = gk := ⟨_, rfl⟩
      by_cases hlt : k < N
      · obtain ⟨c, hck⟩ : ∃ c, cs[k]? = some c := ⟨cs[k]'(by rw [← HN.out]; exact hlt), by simp⟩
        have hdk : cs.drop k = c :: cs.drop (k + 1) := by
          have hl : k < cs.length := by rw [← HN.out]; exact hlt
          rw [List.drop_eq_getElem_cons hl]
          rw [List.getElem?_eq_getElem hl] at hck
          simp at hck
          rw [hck]
        obtain ⟨r, HRr⟩ : ∃ r, Hid (r = cs.drop (k + 1)) := ⟨_, rfl⟩
        rw [hdk, ← HRr.out] at HS HO
        obtain ⟨hc1, hc2, hc3, hc4, HO'⟩ := HO.out
        have HOr : Hid (COK nF nT false c.i1 c.j1 r) := HO'
        have hci : i ≤ c.i0 := by
          cases fst
          · have := hc3 rfl; omega
          · have := hfst rfl; omega
        clear hc2 hc3 HO' hdk HO
        obtain ⟨b, o, rfl, q⟩ := HC.out k c hck
        have hbl : b < w.heap.size := World.block_lt_of_cell? w _ q.1
        obtain ⟨g0, g1, g2, g3⟩ := q.below HB.out hbl
        clear hck q
        have i1k : (k : Int) < N := by omega
        obtain ⟨bc, HBC⟩ : ∃ bc, Hid (bc = wr.heap.size) := ⟨_, rfl⟩
        go_upto_block 2 with fail
        obtain ⟨wa, hwa⟩ : ∃ wa, wa = wr.alloc (Obj.cells #[Value.int IntKind.i64 c.i0, Value.int IntKind.i64 c.i1, Value.int IntKind.i64 c.j0, Value.int IntKind.i64 c.j1] 40) := ⟨_, rfl⟩
        have HK : Hid (wa.heap[bc]? = some (.cells #[.int .i64 c.i0, .int .i64 c.i1, .int .i64 c.j0, .int .i64 c.j1] 40 (0, 0))) := by rw [hwa, HBC.out]; exact heap_alloc_new wr _
        have HBa : Hid (Below w.heap.size w wa) := by rw [hwa]; exact HB.out.alloc HB.out.size _
        have HRa : Hid (Rows3 wa w.heap.size vo vf vt l) := by rw [hwa]; exact ⟨HR3.out.1.alloc _, HR3.out.2.1.alloc _, HR3.out.2.2.1.alloc _, HR3.out.2.2.2⟩
        rw [← hwa, ← HBC.out]
        clear hwa g0 g1 g2 g3 HR3 HB
        obtain ⟨HR3, HB⟩ : Hid (Rows3 wa w.heap.size vo vf vt l) ∧ Hid (Below w.heap.size w wa) := ⟨HRa, HBa⟩
        clear HRa HBa
        go_upto_block 2 with fail
        go_cut [7, 8, 9, 10, 11] (fun vo vf vt vi vj wc => ∃ (l : List (Int × Int × Int)), vi = .int .i64 c.i0 ∧ vj = .int .i64 c.j0 ∧ Hid (Rows3 wc w.heap.size vo vf vt l) ∧ Hid (l ++ scrD nF c r c.i0 c.j0 = scr nF cs 0 0) ∧ (l.length : Int) ≤ c.i0 + c.j0 ∧ Hid (Below w.heap.size w wc) ∧ Hid (wc.heap[bc]? = some (.cells #[.int .i64 c.i0, .int .i64 c.i1, .int .i64 c.j0, .int .i64 c.j1] 40 (0, 0))))
        case first =>
          go_wp2
          go_loopg [7, 8, 9, 10, 11] (c.i0 - i).toNat (fun gk vo vf vt vi vj wr => ∃ (i j : Int) (l : List (Int × Int × Int)), vi = .int .i64 i ∧ vj = .int .i64 j ∧ 0 ≤ i ∧ i ≤ c.i0 ∧ (c.i0 - i = gk) ∧ c.i0 - i = c.j0 - j ∧ Hid (Rows3 wr w.heap.size vo vf vt l) ∧ Hid (l ++ scr nF (c :: r) i j = scr nF cs 0 0) ∧ (l.length : Int) ≤ i + j ∧ Hid (Below w.heap.size w wr) ∧ Hid (wr.heap[bc]? = some (.cells #[.int .i64 c.i0, .int .i64 c.i1, .int .i64 c.j0, .int .i64 c.j1] 40 (0, 0))))
          case atStart => exact ⟨_, _, l, rfl, rfl, by omega, by omega, by omega, by omega, HR3, HS, hll, HB, HK⟩
          case round =>
            clear HR3 HS hll HB HK
            obtain ⟨vo, rfl⟩ : ∃ vo, vo = u7 := ⟨_, rfl⟩
            obtain ⟨vf, rfl⟩ : ∃ vf, vf = u8 := ⟨_, rfl⟩
            obtain ⟨vt, rfl⟩ : ∃ vt, vt = u9 := ⟨_, rfl⟩
            obtain ⟨i, j, l, rfl, rfl, ha, hb, hcc, hd, HR3, HS, hll, HB, HK⟩ := hrel
            have hbz : w.heap.size ≤ wr.heap.size := HB.out.size
            have hcx : wr.cell? ⟨bc, 0, none⟩ = some (.int .i64 c.i0) := (chis_of_block40 HK.out).1
            by_cases hi : i < c.i0
            · go_wp2_with (first
                | (at_builtin; refine wpList_append_src _ rfl (.tmp 28) (.tmp 29) _ _ rfl w.heap.size 5 i5 _ 1 1 Try.underlying33 h50 h51 h52 h53 rfl (by decide) vo _ _ rfl (HR3.out.1.alloc _) _ 1 [.int .u8 32] rfl (Src.ofSlice _ Try.underlying33 ⟨wr.heap.size, 0, none⟩ 1 1 _ rfl (cell_one_new _ _ _) (ints_oneCell .u8 [32])) (by unfold maxLen; omega) (by omega) (by simp; omega) ?_; intro vo' w1 ho1 hg1 hat1; have hz1 := hg1.size; have hz1' : wr.heap.size + 1 ≤ w1.heap.size := (by simpa using hz1))
                | (at_builtin; refine wpList_append_src _ rfl (.tmp 31) (.tmp 33) _ _ rfl w.heap.size 3 i3 _ 1 8 Try.underlying48 h30 h31 h32 h33 rfl (by decide) vf _ _ rfl ((HR3.out.second hg1).alloc _) _ 1 [.int .i64 i] rfl (Src.ofSlice _ Try.underlying48 ⟨w1.heap.size, 0, none⟩ 1 1 _ rfl (cell_one_new _ _ _) (ints_oneCell .i64 [i])) (by unfold maxLen; omega) (by omega) (by simp; omega) ?_; intro vf' w2 ho2 hg2 hat2; have hz2 := hg2.size; have hz2' : w1.heap.size + 1 ≤ w2.heap.size := (by simpa using hz2))
                | (at_builtin; refine wpList_append_src _ rfl (.tmp 35) (.tmp 37) _ _ rfl w.heap.size 3 i3 _ 1 8 Try.underlying48 h30 h31 h32 h33 rfl (by decide) vt _ _ rfl ((HR3.out.third hg1 hg2).alloc _) _ 1 [.int .i64 j] rfl (Src.ofSlice _ Try.underlying48 ⟨w2.heap.size, 0, none⟩ 1 1 _ rfl (cell_one_new _ _ _) (ints_oneCell .i64 [j])) (by unfold maxLen; omega) (by omega) (by simp; omega) ?_; intro vt' w3 ho3 hg3 hat3))
              obtain ⟨k1, k2, k3⟩ := Rows3.push (x := (32, i, j)) HR3.out hbz ho1 hg1 ho2 hg2 hat2 ho3 hg3 hat3
              clear ho1 hg1 ho2 hg2 hat1 hat2 ho3 hg3 hat3
              go_wp2
              go_roundg (gk - 1)
              case measure => omega
              case rel => exact ⟨_, _, _, rfl, rfl, by omega, by omega, by omega, by omega, k1, by unfold Hid; rw [List.append_assoc]; have := HS.out; rw [scr_keep hi] at this; exact this, by simp only [List.length_append, List.length_cons, List.length_nil]; omega, HB.out.trans k2, k3 _ _ _ _ (by decide) (by decide) HK.out⟩
            · go_wp2
              go_meet
              case rel => exact ⟨l, by first | rfl | (congr 1; omega), by first | rfl | (congr 1; omega), HR3, by unfold Hid; have := HS.out; rw [scr_keep_end (c := c) (i := i) (by omega)] at this; rw [← this]; congr 2 <;> omega, by omega, HB, HK⟩
        case rest =>
          clear HR3 HS hll HB HK
          obtain ⟨vo, rfl⟩ : ∃ vo, vo = u7 := ⟨_, rfl⟩
          obtain ⟨vf, rfl⟩ : ∃ vf, vf = u8 := ⟨_, rfl⟩
          obtain ⟨vt, rfl⟩ : ∃ vt, vt = u9 := ⟨_, rfl⟩
          obtain ⟨l, rfl, rfl, HR3, HS, hll, HB, HK⟩ := hcut
          go_upto_block 4 with fail
          go_cut [7, 8, 9, 10, 11] (fun vo vf vt vi vj wc => ∃ (l : List (Int × Int × Int)), vi = .int .i64 c.i1 ∧ vj = .int .i64 c.j0 ∧ Hid (Rows3 wc w.heap.size vo vf vt l) ∧ Hid (l ++ scrI nF c r c.i1 c.j0 = scr nF cs 0 0) ∧ (l.length : Int) ≤ c.i1 + c.j0 ∧ Hid (Below w.heap.size w wc) ∧ Hid (wc.heap[bc]? = some (.cells #[.int .i64 c.i0, .int .i64 c.i1, .int .i64 c.j0, .int .i64 c.j1] 40 (0, 0))))
          case first =>
            go_wp2
            go_loopg [7, 8, 9, 10] (c.i1 - c.i0).toNat (fun gk vo vf vt vi wr => ∃ (i j : Int) (l : List (Int × Int × Int)), vi = .int .i64 i ∧ 0 ≤ i ∧ i ≤ c.i1 ∧ (c.i1 - i = gk) ∧ j = c.j0 ∧ Hid (Rows3 wr w.heap.size vo vf vt l) ∧ Hid (l ++ scrD nF c r i j = scr nF cs 0 0) ∧ (l.length : Int) ≤ i + j ∧ Hid (Below w.heap.size w wr) ∧ Hid (wr.heap[bc]? = some (.cells #[.int .i64 c.i0, .int .i64 c.i1, .int .i64 c.j0, .int .i64 c.j1] 40 (0, 0))))
            case atStart => exact ⟨_, c.j0, l, rfl, by omega, by omega, by omega, by omega, HR3, HS, hll, HB, HK⟩
            case round =>
              clear HR3 HS hll HB HK
              obtain ⟨vo, rfl⟩ : ∃ vo, vo = u7 := ⟨_, rfl⟩
              obtain ⟨vf, rfl⟩ : ∃ vf, vf = u8 := ⟨_, rfl⟩
              obtain ⟨vt, rfl⟩ : ∃ vt, vt = u9 := ⟨_, rfl⟩
              obtain ⟨i, j, l, rfl, ha, hb, hcc, rfl, HR3, HS, hll, HB, HK⟩ := hrel
              have hbz : w.heap.size ≤ wr.heap.size := HB.out.size
              have hcx : wr.cell? ⟨bc, 1, none⟩ = some (.int .i64 c.i1) := (chis_of_block40 HK.out).2.1
              by_cases hi : i < c.i1
              · go_wp2_with (first
                  | (at_builtin; refine wpList_append_src _ rfl (.tmp 47) (.tmp 48) _ _ rfl w.heap.size 5 i5 _ 1 1 Try.underlying33 h50 h51 h52 h53 rfl (by decide) vo _ _ rfl (HR3.out.1.alloc _) _ 1 [.int .u8 45] rfl (Src.ofSlice _ Try.underlying33 ⟨wr.heap.size, 0, none⟩ 1 1 _ rfl (cell_one_new _ _ _) (ints_oneCell .u8 [45])) (by unfold maxLen; omega) (by omega) (by simp; omega) ?_; intro vo' w1 ho1 hg1 hat1; have hz1 := hg1.size; have hz1' : wr.heap.size + 1 ≤ w1.heap.size := (by simpa using hz1))
                  | (at_builtin; refine wpList_append_src _ rfl (.tmp 50) (.tmp 52) _ _ rfl w.heap.size 3 i3 _ 1 8 Try.underlying48 h30 h31 h32 h33 rfl (by decide) vf _ _ rfl ((HR3.out.second hg1).alloc _) _ 1 [.int .i64 i] rfl (Src.ofSlice _ Try.underlying48 ⟨w1.heap.size, 0, none⟩ 1 1 _ rfl (cell_one_new _ _ _) (ints_oneCell .i64 [i])) (by unfold maxLen; omega) (by omega) (by simp; omega) ?_; intro vf' w2 ho2 hg2 hat2; have hz2 := hg2.size; have hz2' : w1.heap.size + 1 ≤ w2.heap.size := (by simpa using hz2))
                  | (at_builtin; refine wpList_append_src _ rfl (.tmp 54) (.tmp 56) _ _ rfl w.heap.size 3 i3 _ 1 8 Try.underlying48 h30 h31 h32 h33 rfl (by decide) vt _ _ rfl ((HR3.out.third hg1 hg2).alloc _) _ 1 [.int .i64 c.j0] rfl (Src.ofSlice _ Try.underlying48 ⟨w2.heap.size, 0, none⟩ 1 1 _ rfl (cell_one_new _ _ _) (ints_oneCell .i64 [c.j0])) (by unfold maxLen; omega) (by omega) (by simp; omega) ?_; intro vt' w3 ho3 hg3 hat3))
                obtain ⟨k1, k2, k3⟩ := Rows3.push (x := (45, i, c.j0)) HR3.out hbz ho1 hg1 ho2 hg2 hat2 ho3 hg3 hat3
                clear ho1 hg1 ho2 hg2 hat1 hat2 ho3 hg3 hat3
                go_wp2
                go_roundg (gk - 1)
                case measure => omega
                case rel => exact ⟨_, c.j0, _, rfl, by omega, by omega, by omega, by omega, k1, by unfold Hid; rw [List.append_assoc]; have := HS.out; rw [scrD_del hi] at this; exact this, by simp only [List.length_append, List.length_cons, List.length_nil]; omega, HB.out.trans k2, k3 _ _ _ _ (by decide) (by decide) HK.out⟩
              · go_wp2
                go_meet
                case rel => exact ⟨l, by first | rfl | (congr 1; omega), by first | rfl | (congr 1; omega), HR3, by unfold Hid; have := HS.out; rw [scrD_end (c := c) (i := i) (by omega)] at this; rw [← this]; congr 2 <;> omega, by omega, HB, HK⟩
          case rest =>
            clear HR3 HS hll HB HK
            obtain ⟨vo, rfl⟩ : ∃ vo, vo = u7 := ⟨_, rfl⟩
            obtain ⟨vf, rfl⟩ : ∃ vf, vf = u8 := ⟨_, rfl⟩
            obtain ⟨vt, rfl⟩ : ∃ vt, vt = u9 := ⟨_, rfl⟩
            obtain ⟨l, rfl, rfl, HR3, HS, hll, HB, HK⟩ := hcut
            go_wp2
            go_loopg [7, 8, 9, 11] (c.j1 - c.j0).toNat (fun gk vo vf vt vj wr => ∃ (i j : Int) (l : List (Int × Int × Int)), vj = .int .i64 j ∧ 0 ≤ j ∧ j ≤ c.j1 ∧ (c.j1 - j = gk) ∧ i = c.i1 ∧ Hid (Rows3 wr w.heap.size vo vf vt l) ∧ Hid (l ++ scrI nF c r i j = scr nF cs 0 0) ∧ (l.length : Int) ≤ i + j ∧ Hid (Below w.heap.size w wr) ∧ Hid (wr.heap[bc]? = some (.cells #[.int .i64 c.i0, .int .i64 c.i1, .int .i64 c.j0, .int .i64 c.j1] 40 (0, 0))))
            case atStart => exact ⟨c.i1, _, l, rfl, by omega, by omega, by omega, by omega, HR3, HS, hll, HB, HK⟩
            case round =>
              clear HR3 HS hll HB HK
              obtain ⟨vo, rfl⟩ : ∃ vo, vo = u7 := ⟨_, rfl⟩
              obtain ⟨vf, rfl⟩ : ∃ vf, vf = u8 := ⟨_, rfl⟩
              obtain ⟨vt, rfl⟩ : ∃ vt, vt = u9 := ⟨_, rfl⟩
              obtain ⟨i, j, l, rfl, ha, hb, hcc, rfl, HR3, HS, hll, HB, HK⟩ := hrel
              have hbz : w.heap.size ≤ wr.heap.size := HB.out.size
              have hcx : wr.cell? ⟨bc, 3, none⟩ = some (.int .i64 c.j1) := (chis_of_block40 HK.out).2.2.2
              by_cases hi : j < c.j1
              · go_wp2_with (first
                  | (at_builtin; refine wpList_append_src _ rfl (.tmp 64) (.tmp 65) _ _ rfl w.heap.size 5 i5 _ 1 1 Try.underlying33 h50 h51 h52 h53 rfl (by decide) vo _ _ rfl (HR3.out.1.alloc _) _ 1 [.int .u8 43] rfl (Src.ofSlice _ Try.underlying33 ⟨wr.heap.size, 0, none⟩ 1 1 _ rfl (cell_one_new _ _ _) (ints_oneCell .u8 [43])) (by unfold maxLen; omega) (by omega) (by simp; omega) ?_; intro vo' w1 ho1 hg1 hat1; have hz1 := hg1.size; have hz1' : wr.heap.size + 1 ≤ w1.heap.size := (by simpa using hz1))
                  | (at_builtin; refine wpList_append_src _ rfl (.tmp 67) (.tmp 69) _ _ rfl w.heap.size 3 i3 _ 1 8 Try.underlying48 h30 h31 h32 h33 rfl (by decide) vf _ _ rfl ((HR3.out.second hg1).alloc _) _ 1 [.int .i64 c.i1] rfl (Src.ofSlice _ Try.underlying48 ⟨w1.heap.size, 0, none⟩ 1 1 _ rfl (cell_one_new _ _ _) (ints_oneCell .i64 [c.i1])) (by unfold maxLen; omega) (by omega) (by simp; omega) ?_; intro vf' w2 ho2 hg2 hat2; have hz2 := hg2.size; have hz2' : w1.heap.size + 1 ≤ w2.heap.size := (by simpa using hz2))
                  | (at_builtin; refine wpList_append_src _ rfl (.tmp 71) (.tmp 73) _ _ rfl w.heap.size 3 i3 _ 1 8 Try.underlying48 h30 h31 h32 h33 rfl (by decide) vt _ _ rfl ((HR3.out.third hg1 hg2).alloc _) _ 1 [.int .i64 j] rfl (Src.ofSlice _ Try.underlying48 ⟨w2.heap.size, 0, none⟩ 1 1 _ rfl (cell_one_new _ _ _) (ints_oneCell .i64 [j])) (by unfold maxLen; omega) (by omega) (by simp; omega) ?_; intro vt' w3 ho3 hg3 hat3))
                obtain ⟨k1, k2, k3⟩ := Rows3.push (x := (43, c.i1, j)) HR3.out hbz ho1 hg1 ho2 hg2 hat2 ho3 hg3 hat3
                clear ho1 hg1 ho2 hg2 hat1 hat2 ho3 hg3 hat3
                go_wp2
                go_roundg (gk - 1)
                case measure => omega
                case rel => exact ⟨c.i1, _, _, rfl, by omega, by omega, by omega, by omega, k1, by unfold Hid; rw [List.append_assoc]; have := HS.out; rw [scrI_ins hi] at this; exact this, by simp only [List.length_append, List.length_cons, List.length_nil]; omega, HB.out.trans k2, k3 _ _ _ _ (by decide) (by decide) HK.out⟩
              · go_wp2
                go_roundg (G - 1)
                case measure => omega
                case rel => exact ⟨k + 1, false, c.i1, j, l, by omega, by go_num, rfl, rfl, by omega, by omega, by omega, by omega, HR3, by rw [← HRr.out]; have := HS.out; rw [scrI_end (c := c) (j := j) (by omega)] at this; exact this, by rw [← HRr.out, show j = c.j1 from by omega]; exact HOr, hll, HB, fun h => by cases h⟩
      · have hdn : cs.drop k = [] := List.drop_eq_nil_of_le (by rw [← HN.out]; omega)
        rw [hdn] at HS HO
        have hto : nF - i = nT - j := HO.out
        clear hdn HO
        go_wp2
        go_meet
        case rel => exact ⟨i, j, l, rfl, rfl, by omega, by omega, by omega, by omega, by omega, HR3, HS, hll, HB⟩
  case rest =>
    obtain ⟨i, j, l, rfl, rfl, hi0, hi1, hj0, hd1, hd2, HR3, HS, hll, HB⟩ := hcut
    go_wp2
    go_loopg [7, 8, 9, 10, 11] (nF - i).toNat (fun gk vo vf vt vi vj wr => ∃ (i j : Int) (l : List (Int × Int × Int)), vi = .int .i64 i ∧ vj = .int .i64 j ∧ 0 ≤ i ∧ nF - i = gk ∧ 0 ≤ j ∧ nF - i ≤ nT - j ∧ nT - j ≤ nF - i ∧ Hid (Rows3 wr w.heap.size vo vf vt l) ∧ Hid (l ++ scr nF [] i j = scr nF cs 0 0) ∧ (l.length : Int) ≤ i + j ∧ Hid (Below w.heap.size w wr))
    case atStart => exact ⟨i, j, l, rfl, rfl, by omega, by omega, by omega, by omega, by omega, HR3, HS, hll, HB⟩
    case round =>
      clear HR3 HS hll HB hi0 hi1 hj0 hd1 hd2
      obtain ⟨vo, rfl⟩ : ∃ vo, vo = u7 := ⟨_, rfl⟩
      obtain ⟨vf, rfl⟩ : ∃ vf, vf = u8 := ⟨_, rfl⟩
      obtain ⟨vt, rfl⟩ : ∃ vt, vt = u9 := ⟨_, rfl⟩
      obtain ⟨i, j, l, rfl, rfl, ha, hb, hcc, hd, hd', HR3, HS, hll, HB⟩ := hrel
      have hbz : w.heap.size ≤ wr.heap.size := HB.out.size
      by_cases hi : i < nF
      · go_wp2_with (first
          | (at_builtin; refine wpList_append_src _ rfl (.tmp 80) (.tmp 81) _ _ rfl w.heap.size 5 i5 _ 1 1 Try.underlying33 h50 h51 h52 h53 rfl (by decide) vo _ _ rfl (HR3.out.1.alloc _) _ 1 [.int .u8 32] rfl (Src.ofSlice _ Try.underlying33 ⟨wr.heap.size, 0, none⟩ 1 1 _ rfl (cell_one_new _ _ _) (ints_oneCell .u8 [32])) (by unfold maxLen; omega) (by omega) (by simp; omega) ?_; intro vo' w1 ho1 hg1 hat1; have hz1 := hg1.size; have hz1' : wr.heap.size + 1 ≤ w1.heap.size := (by simpa using hz1))
          | (at_builtin; refine wpList_append_src _ rfl (.tmp 83) (.tmp 85) _ _ rfl w.heap.size 3 i3 _ 1 8 Try.underlying48 h30 h31 h32 h33 rfl (by decide) vf _ _ rfl ((HR3.out.second hg1).alloc _) _ 1 [.int .i64 i] rfl (Src.ofSlice _ Try.underlying48 ⟨w1.heap.size, 0, none⟩ 1 1 _ rfl (cell_one_new _ _ _) (ints_oneCell .i64 [i])) (by unfold maxLen; omega) (by omega) (by simp; omega) ?_; intro vf' w2 ho2 hg2 hat2; have hz2 := hg2.size; have hz2' : w1.heap.size + 1 ≤ w2.heap.size := (by simpa using hz2))
          | (at_builtin; refine wpList_append_src _ rfl (.tmp 87) (.tmp 89) _ _ rfl w.heap.size 3 i3 _ 1 8 Try.underlying48 h30 h31 h32 h33 rfl (by decide) vt _ _ rfl ((HR3.out.third hg1 hg2).alloc _) _ 1 [.int .i64 j] rfl (Src.ofSlice _ Try.underlying48 ⟨w2.heap.size, 0, none⟩ 1 1 _ rfl (cell_one_new _ _ _) (ints_oneCell .i64 [j])) (by unfold maxLen; omega) (by omega) (by simp; omega) ?_; intro vt' w3 ho3 hg3 hat3))
        obtain ⟨k1, k2, k3⟩ := Rows3.push (x := (32, i, j)) HR3.out hbz ho1 hg1 ho2 hg2 hat2 ho3 hg3 hat3
        clear ho1 hg1 ho2 hg2 hat1 hat2 ho3 hg3 hat3 k3
        go_wp2
        go_roundg (gk - 1)
        case measure => omega
        case rel => exact ⟨_, _, _, rfl, rfl, by omega, by omega, by omega, by omega, by omega, k1, by unfold Hid; rw [List.append_assoc]; have := HS.out; rw [scr_tail hi] at this; exact this, by simp only [List.length_append, List.length_cons, List.length_nil]; omega, HB.out.trans k2⟩
      · go_wp2
        go_ret3
        have hS := HS.out
        rw [scr_tail_end (by omega), List.append_nil] at hS
        exact ⟨_, _, _, rfl, hS ▸ HR3.out, HB.out⟩
end Go.Proofs.Qxb6602907a
