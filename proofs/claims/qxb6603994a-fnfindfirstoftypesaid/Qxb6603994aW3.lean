import Derived.Test.Qxb6603994aW2
import Derived.Laws.IdiomStrings
namespace Go.Proofs.Qxb6603994a
open Go.RowKit
set_option linter.unusedVariables false

def bxv (b : Bx) : Value := .agg #[.int .u8 b.t0, .int .u8 b.t1, .int .u8 b.t2, .int .u8 b.t3, .int .i64 b.st, .int .i64 b.bo, .int .i64 b.en]
def isB (s : ByteArray) (b : Bx) : Bool := isT b.t0 b.t1 b.t2 b.t3 s
def InR (b : Bx) : Prop := (0 ≤ b.t0 ∧ b.t0 < 256) ∧ (0 ≤ b.t1 ∧ b.t1 < 256) ∧ (0 ≤ b.t2 ∧ b.t2 < 256) ∧ (0 ≤ b.t3 ∧ b.t3 < 256)
def bx0 : Bx := ⟨0, 0, 0, 0, 0, 0, 0⟩

theorem byte_of {x : Int} (h : 0 ≤ x ∧ x < 256) : ∃ y : UInt8, x = (y.toNat : Int) := by
  refine ⟨UInt8.ofNat x.toNat, ?_⟩
  have : x.toNat < 256 := by omega
  simp [Nat.mod_eq_of_lt this]
  omega

theorem isT_str (y0 y1 y2 y3 : UInt8) (s : ByteArray) : isT (y0.toNat : Int) (y1.toNat : Int) (y2.toNat : Int) (y3.toNat : Int) s = ([y0, y1, y2, y3] == s.toList) := by
  rw [Go.ByteArray.toList_eq]
  unfold isT sl
  rw [Bool.eq_iff_iff]
  simp only [decide_eq_true_eq, beq_iff_eq]
  constructor
  · intro h
    have h' : s.data.toList.map (fun x => (x.toNat : Int)) = [y0, y1, y2, y3].map (fun x : UInt8 => (x.toNat : Int)) := h
    exact ((List.map_inj_right (fun a b e => UInt8.toNat_inj.mp (by omega))).mp h').symm
  · intro h
    rw [← h]
    rfl

theorem conv4 (w : World) (g : Nat) (y0 y1 y2 y3 : UInt8) (st bo en : Int) (cap : Nat) (W : World)
    (c0 : W.cell? ⟨g, 0, none⟩ = some (.int .u8 y0.toNat)) (c1 : W.cell? ⟨g, 1, none⟩ = some (.int .u8 y1.toNat)) (c2 : W.cell? ⟨g, 2, none⟩ = some (.int .u8 y2.toNat)) (c3 : W.cell? ⟨g, 3, none⟩ = some (.int .u8 y3.toNat)) :
    (convert 46 9 (.slice (some ⟨g, 0, none⟩) 4 cap)).run Try.prog W = .ok (.string ⟨#[y0, y1, y2, y3]⟩) W := by
  refine run_convert_bytes_back (P := Try.prog) W 46 9 5 ⟨g, 0, none⟩ cap [y0, y1, y2, y3] Try.underlying46 Try.underlying5 Try.underlying9 ?_
  intro j hj
  rw [Addr.add_mid]
  have : j = 0 ∨ j = 1 ∨ j = 2 ∨ j = 3 := by simp at hj; omega
  rcases this with rfl | rfl | rfl | rfl <;> simpa

/-- Seven cells of a block of the call's own, which may be written. -/
def Res (w : World) (g : Nat) : Prop := ∀ j, j < 7 → (∃ v, w.cell? ⟨g, j, none⟩ = some v) ∧ w.frozen? ⟨g, j, none⟩ = false
theorem Res.alloc {w : World} {g : Nat} (h : Res w g) (o : Obj) : Res (w.alloc o) g := fun j hj => by
  obtain ⟨⟨v, hv⟩, hf⟩ := h j hj
  have hg : g < w.heap.size := World.block_lt_of_cell? w _ hv
  exact ⟨⟨v, by rw [World.cell?_alloc_past _ _ _ hg]; exact hv⟩, by rw [World.frozen?_alloc_past _ _ _ hg]; exact hf⟩
theorem take_seven {w : World} {g : Nat} {b : Bx} (h : BxIs w g 0 b) : (loadVar 27 ⟨g, 0, none⟩).run Try.prog w = .ok (bxv b) w := by
  obtain ⟨h0, h1, h2, h3, h4, h5, h6⟩ := h
  refine run_loadVar_mid (P := Try.prog) w g 0 27 [.int .u8 b.t0, .int .u8 b.t1, .int .u8 b.t2, .int .u8 b.t3, .int .i64 b.st, .int .i64 b.bo, .int .i64 b.en] _ ?_ Try.underlying27 rfl Try.size27
  intro j v hj
  have hl : j < 7 := by
    rcases Nat.lt_or_ge j 7 with h | h
    · exact h
    · rw [List.getElem?_eq_none (by simpa using h)] at hj; cases hj
  have : j = 0 ∨ j = 1 ∨ j = 2 ∨ j = 3 ∨ j = 4 ∨ j = 5 ∨ j = 6 := by omega
  rcases this with rfl | rfl | rfl | rfl | rfl | rfl | rfl <;> (simp at hj; subst hj; simpa)

theorem res_box {fn : Func} (hf : fn.results = #[.cell 4 27, .tmp 5]) {tmps : Array Value} {w : World} {g : Nat} {b : Bx} {r : Value} (hp : tmps.getD 4 undef = .pointer (some ⟨g, 0, none⟩)) (hq : tmps.getD 5 undef = r) (h : BxIs w g 0 b) :
    (results fn tmps).run Try.prog w = .ok (.tuple #[bxv b, r]) w := by
  rw [results_cell_tmp hf, hp, hq]
  simp only [asAddr, Sem.run_pure, Result.andThen, take_seven h]

set_option maxHeartbeats 4000000 in
set_option maxRecDepth 8000 in
theorem find23 (a : Option Addr) (N cap : Nat) (bs : List Bx) (s : ByteArray) (w : World) (HN : Hid (N = bs.length)) (hn : N ≤ 1048576) (hc : BxAt w a bs) (hr : ∀ b ∈ bs, InR b) (hs : s.size ≤ 1048576) :
    Calls Try.prog 23 #[.slice a N cap, .string s] w fun e w' => e = .returned (.tuple #[bxv ((bs.find? (isB s)).getD bx0), .bool (bs.find? (isB s)).isSome]) ∧ Below w.heap.size w w' := by
  have HC : Hid (BxAt w a bs) := hc
  have HR : Hid (∀ b ∈ bs, InR b) := hr
  clear hc hr
  go_enter Try.func23, Try.ntmps23
  go_wp2
  obtain ⟨W, hW⟩ : ∃ W, W = w.alloc (Obj.cells #[.int .u8 0, .int .u8 0, .int .u8 0, .int .u8 0, .int .i64 0, .int .i64 0, .int .i64 0] 27) := ⟨_, rfl⟩
  have HBW : Hid (Below w.heap.size w W) := by rw [hW]; exact (Below.refl _ _).alloc (Nat.le_refl _) _
  have HRW : Hid (Res W w.heap.size) := by
    rw [hW]
    intro j hj
    have : j = 0 ∨ j = 1 ∨ j = 2 ∨ j = 3 ∨ j = 4 ∨ j = 5 ∨ j = 6 := by omega
    rcases this with rfl | rfl | rfl | rfl | rfl | rfl | rfl <;> simp [go_sem]
  rw [← hW]
  clear hW
  go_loopw [10] (fun i wr => ∃ (k : Nat), k ≤ N ∧ i = .int .i64 k ∧ Hid ((bs.drop k).find? (isB s) = bs.find? (isB s)) ∧ Hid (Res wr w.heap.size) ∧ Hid (Below w.heap.size w wr)) (fun i _ => N - (intOf i).toNat)
  case atStart => exact ⟨0, by omega, rfl, rfl, HRW, HBW⟩
  case round =>
    obtain ⟨k, hk, rfl, HF, HRs, HB⟩ := hrel
    obtain ⟨⟨v0, r0⟩, f0⟩ := HRs.out 0 (by omega)
    obtain ⟨⟨v1, r1⟩, f1⟩ := HRs.out 1 (by omega)
    obtain ⟨⟨v2, r2⟩, f2⟩ := HRs.out 2 (by omega)
    obtain ⟨⟨v3, r3⟩, f3⟩ := HRs.out 3 (by omega)
    obtain ⟨⟨v4, r4⟩, f4⟩ := HRs.out 4 (by omega)
    obtain ⟨⟨v5, r5⟩, f5⟩ := HRs.out 5 (by omega)
    obtain ⟨⟨v6, r6⟩, f6⟩ := HRs.out 6 (by omega)
    have hbig : w.heap.size < wr.heap.size := World.block_lt_of_cell? wr _ r0
    have hne : w.heap.size ≠ wr.heap.size := by omega
    have hne' : wr.heap.size ≠ w.heap.size := by omega
    by_cases hlt : k < N
    · obtain ⟨c, hck⟩ : ∃ c, bs[k]? = some c := ⟨bs[k]'(by rw [← HN.out]; exact hlt), by simp⟩
      obtain ⟨b, o, rfl, q⟩ := HC.out k c hck
      have hbl : b < w.heap.size := World.block_lt_of_cell? w _ q.1
      obtain ⟨g0, g1, g2, g3, g4, g5, g6⟩ := q.below HB.out hbl
      have hin := HR.out c (List.mem_of_getElem? hck)
      have HK : Hid (bs.drop k = c :: bs.drop (k + 1)) := by
        have hl : k < bs.length := by rw [← HN.out]; exact hlt
        have e : bs[k]'hl = c := by rw [List.getElem?_eq_getElem hl] at hck; simpa using hck
        rw [← e]; exact List.drop_eq_getElem_cons hl
      clear hck q
      obtain ⟨x0, x1, x2, x3, x4, x5, x6⟩ := c
      obtain ⟨y0, rfl⟩ := byte_of hin.1
      obtain ⟨y1, rfl⟩ := byte_of hin.2.1
      obtain ⟨y2, rfl⟩ := byte_of hin.2.2.1
      obtain ⟨y3, rfl⟩ := byte_of hin.2.2.2
      simp only at g0 g1 g2 g3 g4 g5 g6
      clear hin
      have i1k : (k : Int) < N := by omega
      have hbw : b < wr.heap.size := by omega
      have hconv := conv4 w wr.heap.size y0 y1 y2 y3 x4 x5 x6 4 (wr.alloc (.cells #[.int .u8 y0.toNat, .int .u8 y1.toNat, .int .u8 y2.toNat, .int .u8 y3.toNat, .int .i64 x4, .int .i64 x5, .int .i64 x6] 27)) (by simp [go_sem]) (by simp [go_sem]) (by simp [go_sem]) (by simp [go_sem])
      have HI : Hid (isB s ⟨y0.toNat, y1.toNat, y2.toNat, y3.toNat, x4, x5, x6⟩ = ([y0, y1, y2, y3] == s.toList)) := isT_str y0 y1 y2 y3 s
      go_wp2
      · rename_i hyes
        (try simp only [Exit.inBlock, Exit.then])
        have e : bs.find? (isB s) = some ⟨y0.toNat, y1.toNat, y2.toNat, y3.toNat, x4, x5, x6⟩ := by
          rw [← HF.out, HK.out, List.find?_cons, HI.out, hyes]
        refine bodyPost_ret (res_box (g := w.heap.size) (b := ⟨y0.toNat, y1.toNat, y2.toNat, y3.toNat, x4, x5, x6⟩) rfl rfl rfl ?_) rfl ⟨?_, ?_⟩
        · refine ⟨?_, ?_, ?_, ?_, ?_, ?_, ?_⟩ <;> simp [go_sem, *]
        · rw [e]; rfl
        · have HB7 := ((((((((HB.out.setCell (p := ⟨w.heap.size, 0, none⟩) (Nat.le_refl _) (.int .u8 y0.toNat)).setCell (p := ⟨w.heap.size, 1, none⟩) (Nat.le_refl _) (.int .u8 y1.toNat)).setCell (p := ⟨w.heap.size, 2, none⟩) (Nat.le_refl _) (.int .u8 y2.toNat)).setCell (p := ⟨w.heap.size, 3, none⟩) (Nat.le_refl _) (.int .u8 y3.toNat)).setCell (p := ⟨w.heap.size, 4, none⟩) (Nat.le_refl _) (.int .i64 x4)).setCell (p := ⟨w.heap.size, 5, none⟩) (Nat.le_refl _) (.int .i64 x5)).setCell (p := ⟨w.heap.size, 6, none⟩) (Nat.le_refl _) (.int .i64 x6)))
          exact HB7.alloc HB7.size _
      · rename_i hno
        go_roundw
        case rel => exact ⟨k + 1, by omega, by go_num, by unfold Hid; rw [← HF.out, HK.out, List.find?_cons, HI.out, hno], HRs.out.alloc _, HB.out.alloc HB.out.size _⟩
        case measure => go_light; simp only [intOf]; omega
    · have hkN : k = N := by omega
      have e : bs.find? (isB s) = none := by
        rw [← HF.out, List.drop_eq_nil_of_le (by rw [← HN.out]; omega)]; rfl
      go_wp2
      (try simp only [Exit.inBlock, Exit.then])
      refine bodyPost_ret (res_box (g := w.heap.size) (b := bx0) rfl rfl rfl ?_) rfl ⟨?_, ?_⟩
      · unfold bx0
        refine ⟨?_, ?_, ?_, ?_, ?_, ?_, ?_⟩ <;> simp [go_sem, *]
      · rw [e]; rfl
      · exact ((((((((HB.out.setCell (p := ⟨w.heap.size, 0, none⟩) (Nat.le_refl _) (.int .u8 0)).setCell (p := ⟨w.heap.size, 1, none⟩) (Nat.le_refl _) (.int .u8 0)).setCell (p := ⟨w.heap.size, 2, none⟩) (Nat.le_refl _) (.int .u8 0)).setCell (p := ⟨w.heap.size, 3, none⟩) (Nat.le_refl _) (.int .u8 0)).setCell (p := ⟨w.heap.size, 4, none⟩) (Nat.le_refl _) (.int .i64 0)).setCell (p := ⟨w.heap.size, 5, none⟩) (Nat.le_refl _) (.int .i64 0)).setCell (p := ⟨w.heap.size, 6, none⟩) (Nat.le_refl _) (.int .i64 0)))

set_option maxHeartbeats 4000000 in
set_option maxRecDepth 8000 in
theorem zzfind8 (a : Option Addr) (N cap : Nat) (bs : List Bx) (s : ByteArray) (w : World) (HN : Hid (N = bs.length)) (hn : N ≤ 1048576) (hc : BxAt w a bs) (hr : ∀ b ∈ bs, InR b) (hs : s.size ≤ 1048576) :
    Calls Try.prog 8 #[.slice a N cap, .string s] w fun e w' => e = .returned (.tuple #[bxv ((bs.find? (isB s)).getD bx0), .bool (bs.find? (isB s)).isSome]) ∧ Below w.heap.size w w' := by
  have HC : Hid (BxAt w a bs) := hc
  have HR : Hid (∀ b ∈ bs, InR b) := hr
  clear hc hr
  go_enter Try.func8, Try.ntmps8
  go_wp2_with fail
  obtain ⟨W, hW⟩ : ∃ W, W = w.alloc (Obj.cells #[.int .u8 0, .int .u8 0, .int .u8 0, .int .u8 0, .int .i64 0, .int .i64 0, .int .i64 0] 27) := ⟨_, rfl⟩
  have HBW : Hid (Below w.heap.size w W) := by rw [hW]; exact (Below.refl _ _).alloc (Nat.le_refl _) _
  have HRW : Hid (Res W w.heap.size) := by
    rw [hW]
    intro j hj
    have : j = 0 ∨ j = 1 ∨ j = 2 ∨ j = 3 ∨ j = 4 ∨ j = 5 ∨ j = 6 := by omega
    rcases this with rfl | rfl | rfl | rfl | rfl | rfl | rfl <;> simp [go_sem]
  rw [← hW]
  clear hW
  refine (find23 a N cap bs s W HN hn (HC.out.below HBW.out) HR.out hs).mono ?_
  rintro e w' ⟨rfl, hB⟩
  obtain ⟨⟨x0, x1, x2, x3, x4, x5, x6⟩, hx⟩ : ∃ b, b = (bs.find? (isB s)).getD bx0 := ⟨_, rfl⟩
  rw [← hx]
  have HX : Hid (⟨x0, x1, x2, x3, x4, x5, x6⟩ = (bs.find? (isB s)).getD bx0) := hx
  clear hx
  have hz : w.heap.size < W.heap.size := by
    obtain ⟨⟨v, hv⟩, _⟩ := HRW.out 0 (by omega)
    exact World.block_lt_of_cell? W _ hv
  have HBw : Hid (Below w.heap.size w w') := HBW.out.trans (hB.mono (by omega))
  have HRs : Hid (Res w' w.heap.size) := fun j hj => by
    obtain ⟨⟨v, hv⟩, hf⟩ := HRW.out j hj
    exact ⟨⟨v, (hB.cell (p := ⟨w.heap.size, j, none⟩) hz).trans hv⟩, (hB.frozen (p := ⟨w.heap.size, j, none⟩) hz).trans hf⟩
  clear hB
  obtain ⟨⟨v0, r0⟩, f0⟩ := HRs.out 0 (by omega)
  obtain ⟨⟨v1, r1⟩, f1⟩ := HRs.out 1 (by omega)
  obtain ⟨⟨v2, r2⟩, f2⟩ := HRs.out 2 (by omega)
  obtain ⟨⟨v3, r3⟩, f3⟩ := HRs.out 3 (by omega)
  obtain ⟨⟨v4, r4⟩, f4⟩ := HRs.out 4 (by omega)
  obtain ⟨⟨v5, r5⟩, f5⟩ := HRs.out 5 (by omega)
  obtain ⟨⟨v6, r6⟩, f6⟩ := HRs.out 6 (by omega)
  unfold bxv
  go_wp2
  (try simp only [Exit.inBlock, Exit.then])
  refine bodyPost_ret (res_box (g := w.heap.size) (b := ⟨x0, x1, x2, x3, x4, x5, x6⟩) rfl rfl rfl ?_) rfl ⟨by first | rfl | (rw [← HX.out]; rfl), ?_⟩
  · refine ⟨?_, ?_, ?_, ?_, ?_, ?_, ?_⟩ <;> simp [go_sem, *]
  · exact ((((((((HBw.out.setCell (p := ⟨w.heap.size, 0, none⟩) (Nat.le_refl _) _).setCell (p := ⟨w.heap.size, 1, none⟩) (Nat.le_refl _) _).setCell (p := ⟨w.heap.size, 2, none⟩) (Nat.le_refl _) _).setCell (p := ⟨w.heap.size, 3, none⟩) (Nat.le_refl _) _).setCell (p := ⟨w.heap.size, 4, none⟩) (Nat.le_refl _) _).setCell (p := ⟨w.heap.size, 5, none⟩) (Nat.le_refl _) _).setCell (p := ⟨w.heap.size, 6, none⟩) (Nat.le_refl _) _))
end Go.Proofs.Qxb6603994a
