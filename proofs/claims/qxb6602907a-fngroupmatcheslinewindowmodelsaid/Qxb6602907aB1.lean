import Derived.Test.Qxb6602907aW8
import Derived.Test.Qxb6602907aP1
namespace Go.Proofs.Qxb6602907a
open Go.RowKit
set_option linter.unusedVariables false

def bCells (l : List UInt8) : List Value := l.map fun b => Value.int .u8 b.toNat
theorem byteCells_eq (s : ByteArray) : byteCells s = bCells s.data.toList := rfl
theorem bCells_length (l : List UInt8) : (bCells l).length = l.length := by simp [bCells]
theorem bCells_append (a b : List UInt8) : bCells (a ++ b) = bCells a ++ bCells b := by simp [bCells]

/-- The value v is a byte slice that owns l. -/
def BytesIn (w : World) (base : Nat) (v : Value) (l : List UInt8) : Prop := w.ownsRow base 5 1 v l.length (bCells l)

theorem foldl_push (l : List UInt8) : ∀ (s : ByteArray), (l.map fun b => ((b.toNat : Nat) : Int)).foldl (fun r n => r.push (UInt8.ofNat n.toNat)) s = ⟨s.data ++ l.toArray⟩ := by
  induction l with
  | nil => intro s; cases s; simp
  | cons b l ih =>
    intro s
    simp only [List.map_cons, List.foldl_cons]
    rw [ih]
    cases s
    simp [ByteArray.push]

theorem bytes_conv {w : World} {base : Nat} {v : Value} {l : List UInt8} (h : BytesIn w base v l) : (convert 33 9 v).run Try.prog w = .ok (.string ⟨l.toArray⟩) w := by
  obtain ⟨a, c, rfl⟩ := owns_len h
  rw [run_convert_bytes_string w 33 9 5 a _ c Try.underlying33 Try.underlying5 Try.underlying9]
  rcases h.2 with ⟨he, h0⟩ | ⟨g, cap, cur, he, _, hg, _⟩
  · have : a = none := by simp at he; exact he.1
    subst this
    have hl : l = [] := List.eq_nil_of_length_eq_zero h0
    subst hl
    rfl
  · have he' : a = some ⟨g, 0, none⟩ := by simp at he; exact he.1
    subst he'
    have hc := h.cells (g := g) rfl
    have hload := run_loadCells_list (P := Try.prog) w ⟨g, 0, none⟩ (bCells l) hc
    rw [bCells_length] at hload
    have e : bCells l = (l.map fun b => ((b.toNat : Nat) : Int)).map (Value.int .u8) := by simp [bCells]
    rw [e] at hload
    rw [run_bytesToString w ⟨g, 0, none⟩ l.length c _ hload, foldl_push]
    simp [ByteArray.empty, ByteArray.emptyWithCapacity]
    rfl

theorem bytes_convN {w : World} {base : Nat} {v : Value} {l : List UInt8} (h : BytesIn w base v l) (n : Nat) : (convert 33 9 v).run Try.prog (w.drewN n) = .ok (.string ⟨l.toArray⟩) (w.drewN n) :=
  bytes_conv (w := w.drewN n) (base := base) h

/-- Two byte slices of the call's own, apart. -/
def Two (w : World) (base : Nat) (vo vn : Value) (lo ln : List UInt8) : Prop := BytesIn w base vo lo ∧ BytesIn w base vn ln ∧ (vo.ownBlock = none ∨ vo.ownBlock ≠ vn.ownBlock)

theorem Two.nil (w : World) (base : Nat) : Two w base (.slice none 0 0) (.slice none 0 0) [] [] := ⟨World.ownsRow_nil _ _ _ _, World.ownsRow_nil _ _ _ _, .inl rfl⟩

theorem Two.old {w w1 : World} {base : Nat} {vo vn vo' : Value} {lo ln x : List UInt8} (h : Two w base vo vn lo ln) (hb : base ≤ w.heap.size) (ho : w1.ownsRow base 5 1 vo' (lo.length + x.length) (bCells lo ++ bCells x)) (hg : w.grownBy w1 vo.ownBlock) (hat : vo'.ownBlock = vo.ownBlock ∨ vo'.ownBlock = some w.heap.size) :
    Two w1 base vo' vn (lo ++ x) ln ∧ Below base w w1 := by
  have hn : vn.ownBlock = none ∨ vn.ownBlock ≠ vo.ownBlock := by
    rcases h.2.2 with e | e
    · rw [e]; cases vn.ownBlock <;> simp
    · exact .inr (Ne.symm e)
  refine ⟨⟨?_, h.2.1.kept hg hn, ?_⟩, grown_below hg hb (fun k hk => (World.ownsRow.lt h.1 k hk).1)⟩
  · unfold BytesIn; rw [List.length_append, bCells_append]; exact ho
  · rcases hat with e | e
    · rw [e]; exact h.2.2
    · right
      rw [e]
      intro e'
      have := (World.ownsRow.lt h.2.1 _ e'.symm).2
      omega

theorem Two.new {w w1 : World} {base : Nat} {vo vn vn' : Value} {lo ln x : List UInt8} (h : Two w base vo vn lo ln) (hb : base ≤ w.heap.size) (ho : w1.ownsRow base 5 1 vn' (ln.length + x.length) (bCells ln ++ bCells x)) (hg : w.grownBy w1 vn.ownBlock) (hat : vn'.ownBlock = vn.ownBlock ∨ vn'.ownBlock = some w.heap.size) :
    Two w1 base vo vn' lo (ln ++ x) ∧ Below base w w1 := by
  refine ⟨⟨h.1.kept hg h.2.2, ?_, ?_⟩, grown_below hg hb (fun k hk => (World.ownsRow.lt h.2.1 k hk).1)⟩
  · unfold BytesIn; rw [List.length_append, bCells_append]; exact ho
  · rcases hat with e | e
    · rw [e]; exact h.2.2
    · rw [e]
      cases hv : vo.ownBlock with
      | none => exact .inl rfl
      | some k =>
        right
        intro e'
        have := (World.ownsRow.lt h.1 k hv).2
        simp at e'
        omega

theorem runs_at {w : World} {base : Nat} {a : Option Addr} {n c : Nat} {rs : List (Int × ByteArray)} (h : RunsIn w base (.slice a n c) rs) {q : Nat} {r : Int × ByteArray} (hq : rs[q]? = some r) :
    ∃ g, a = some ⟨g, 0, none⟩ ∧ g < w.heap.size ∧ w.cell? ⟨g, q * 2, none⟩ = some (.int .u8 r.1) ∧ w.cell? ⟨g, q * 2 + 1, none⟩ = some (.string r.2) := by
  have hlt : q < rs.length := by
    rcases Nat.lt_or_ge q rs.length with h | h
    · exact h
    · rw [List.getElem?_eq_none h] at hq; cases hq
  obtain ⟨g, cap, he, hb, hg⟩ := h.form (by omega)
  have he' : a = some ⟨g, 0, none⟩ ∧ n = rs.length ∧ c = cap := by simpa using he
  obtain ⟨rfl, rfl, rfl⟩ := he'
  have key : ∀ (l : List (Int × ByteArray)) (q : Nat), l[q]? = some r → (runCells l)[q * 2]? = some (.int .u8 r.1) ∧ (runCells l)[q * 2 + 1]? = some (.string r.2) := by
    intro l
    induction l with
    | nil => intro q h; simp at h
    | cons x l ih =>
      intro q h
      cases q with
      | zero => simp at h; subst h; simp [runCells]
      | succ q =>
        simp only [List.getElem?_cons_succ] at h
        have := ih q h
        rw [show (q + 1) * 2 = q * 2 + 2 from by omega]
        simpa [runCells] using this
  have k := key rs q hq
  exact ⟨g, rfl, hg, by rw [World.ownsRow.cellAt h _ (by omega)]; exact k.1, by rw [World.ownsRow.cellAt h _ (by omega)]; exact k.2⟩

theorem hunks_at {w : World} {base : Nat} {a : Option Addr} {n c : Nat} {hs : List Hk} (h : HunksIn w base (.slice a n c) hs) {k : Nat} {x : Hk} (hk : hs[k]? = some x) :
    ∃ g rv, a = some ⟨g, 0, none⟩ ∧ g < w.heap.size ∧ w.cell? ⟨g, k * 5, none⟩ = some (.int .i64 x.fr) ∧ w.cell? ⟨g, k * 5 + 1, none⟩ = some (.int .i64 x.tw) ∧ w.cell? ⟨g, k * 5 + 2, none⟩ = some (.int .i64 x.fc) ∧
      w.cell? ⟨g, k * 5 + 3, none⟩ = some (.int .i64 x.tc) ∧ w.cell? ⟨g, k * 5 + 4, none⟩ = some rv ∧ RunsIn w base rv x.runs := by
  obtain ⟨rvs, hl, ho, hr⟩ := h
  have hlt : k < hs.length := by
    rcases Nat.lt_or_ge k hs.length with h | h
    · exact h
    · rw [List.getElem?_eq_none h] at hk; cases hk
  obtain ⟨rv, hrv⟩ : ∃ rv, rvs[k]? = some rv := ⟨rvs[k], by simp⟩
  obtain ⟨g, cap, he, hb, hg⟩ := ho.form (by omega)
  have he' : a = some ⟨g, 0, none⟩ ∧ n = hs.length ∧ c = cap := by simpa using he
  obtain ⟨rfl, rfl, rfl⟩ := he'
  have key : ∀ (l : List Hk) (m : List Value) (k : Nat), l[k]? = some x → m[k]? = some rv → (hksCells l m)[k * 5]? = some (.int .i64 x.fr) ∧ (hksCells l m)[k * 5 + 1]? = some (.int .i64 x.tw) ∧ (hksCells l m)[k * 5 + 2]? = some (.int .i64 x.fc) ∧ (hksCells l m)[k * 5 + 3]? = some (.int .i64 x.tc) ∧ (hksCells l m)[k * 5 + 4]? = some rv := by
    intro l
    induction l with
    | nil => intro m k h; simp at h
    | cons y l ih =>
      intro m k h h'
      cases m with
      | nil => simp at h'
      | cons v m =>
        cases k with
        | zero => simp at h h'; subst h; subst h'; simp [hksCells, hkCells]
        | succ k =>
          simp only [List.getElem?_cons_succ] at h h'
          have := ih m k h h'
          rw [show (k + 1) * 5 = k * 5 + 5 from by omega]
          simpa [hksCells, hkCells] using this
  have q := key hs rvs k hk hrv
  refine ⟨g, rv, rfl, hg, ?_, ?_, ?_, ?_, ?_, hr k x rv hk hrv⟩
  · rw [ho.cellAt _ (by omega)]; exact q.1
  · rw [ho.cellAt _ (by omega)]; exact q.2.1
  · rw [ho.cellAt _ (by omega)]; exact q.2.2.1
  · rw [ho.cellAt _ (by omega)]; exact q.2.2.2.1
  · rw [ho.cellAt _ (by omega)]; exact q.2.2.2.2

theorem patches_len {s1 : ByteArray} {z1 : List Int} {s2 : ByteArray} {z2 : List Int} {nF nT : Int} : ∀ (hs : List Hk) (cu tcu : Int) (out : List UInt8), Patches s1 z1 s2 z2 nF nT cu tcu out hs → out.length ≤ s2.size
  | [], cu, tcu, out, h => by
    have := congrArg List.length h.2.2
    simp only [List.length_append] at this
    have e : s2.data.toList.length = s2.size := rfl
    omega
  | x :: r, cu, tcu, out, h => by
    obtain ⟨fs, ts, _, _, _, _, _, _, _, _, h'⟩ := h
    have := patches_len r _ _ _ h'
    simp only [List.length_append] at this
    omega
end Go.Proofs.Qxb6602907a
