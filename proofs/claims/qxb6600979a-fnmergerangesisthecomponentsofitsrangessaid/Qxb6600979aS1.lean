import Derived.Test.Qxb6600979aW6
import Derived.Shelf.SlSortCmp.WholeK
import Derived.Shelf.Lay
import Derived.Shelf.SlGeneric
import Derived.Ground.SlsfProg
namespace Go.Proofs.Qxb6600979a
open Go.RowKit Go.Shelf Go.Sort
set_option linter.unusedVariables false
shelf_lay_g SlLaysF0.n6 Slsf 6 at Try 32 as Try.sortKR

/-! ### bytewise order -/
theorem cb_neg : ∀ (x y : List UInt8), cb y x = - cb x y
  | [], [] => rfl
  | [], _ :: _ => rfl
  | _ :: _, [] => rfl
  | a :: x, b :: y => by
    rw [cb_cons, cb_cons]
    have ih := cb_neg x y
    by_cases h1 : a < b
    · have h2 : ¬ b < a := UInt8.lt_asymm h1
      simp [h1, h2]
    · by_cases h2 : b < a
      · simp [h1, h2]
      · simp [h1, h2, ih]
theorem cb_self (x : List UInt8) : cb x x = 0 := by have := cb_neg x x; omega
theorem cb_eq : ∀ (x y : List UInt8), cb x y = 0 → x = y
  | [], [], _ => rfl
  | [], _ :: _, h => by simp [cb, Lib.compareBytes] at h
  | _ :: _, [], h => by simp [cb, Lib.compareBytes] at h
  | a :: x, b :: y, h => by
    rw [cb_cons] at h
    by_cases h1 : a < b
    · simp [h1] at h
    · by_cases h2 : b < a
      · simp [h1, h2] at h
      · rw [if_neg h1, if_neg h2] at h
        rw [cb_eq x y h, UInt8.le_antisymm (UInt8.not_lt.mp h2) (UInt8.not_lt.mp h1)]
theorem cb_trans : ∀ (x y z : List UInt8), cb x y ≤ 0 → cb y z ≤ 0 → cb x z ≤ 0
  | [], _, [], _, _ => by decide
  | [], _, _ :: _, _, _ => by simp [cb, Lib.compareBytes]
  | a :: x, [], _, h, _ => by simp [cb, Lib.compareBytes] at h
  | a :: x, b :: y, [], _, h => by simp [cb, Lib.compareBytes] at h
  | a :: x, b :: y, c :: z, h1, h2 => by
    rw [cb_cons] at h1 h2 ⊢
    have ih := cb_trans x y z
    by_cases p1 : a < b
    · by_cases p2 : b < c
      · rw [if_pos (UInt8.lt_trans p1 p2)]; omega
      · by_cases p3 : c < b
        · rw [if_neg p2, if_pos p3] at h2; omega
        · have e : b = c := UInt8.le_antisymm (UInt8.not_lt.mp p3) (UInt8.not_lt.mp p2)
          subst e
          rw [if_pos p1]; omega
    · by_cases p2 : b < a
      · rw [if_neg p1, if_pos p2] at h1; omega
      · have e : a = b := UInt8.le_antisymm (UInt8.not_lt.mp p2) (UInt8.not_lt.mp p1)
        subst e
        rw [if_neg p1, if_neg p2] at h1
        by_cases p3 : a < c
        · rw [if_pos p3]; omega
        · by_cases p4 : c < a
          · rw [if_neg p3, if_pos p4] at h2; omega
          · rw [if_neg p3, if_neg p4] at h2 ⊢
            exact ih h1 h2
theorem cb_le_lt {x y z : List UInt8} (h1 : cb x y ≤ 0) (h2 : cb y z < 0) : cb x z < 0 := by
  have h := cb_trans x y z h1 (by omega)
  by_cases e : cb x z = 0
  · have := cb_eq x z e
    subst this
    have := cb_neg x y
    omega
  · omega
theorem cb_lt_le {x y z : List UInt8} (h1 : cb x y < 0) (h2 : cb y z ≤ 0) : cb x z < 0 := by
  have h := cb_trans x y z (by omega) h2
  by_cases e : cb x z = 0
  · have := cb_eq x z e
    subst this
    have := cb_neg x y
    omega
  · omega

/-! ### the sort -/
/-- A range whose slices lie in w, off the block g. -/
abbrev El (w : World) (g : Nat) : Type := { p : Sl × Sl // (SlAt w p.1 ∧ SlAt w p.2) ∧ Off g p.1 ∧ Off g p.2 }
def elNil (w : World) (g : Nat) : El w g := ⟨(nilS, nilS), ⟨SlAt.nil _, SlAt.nil _⟩, fun ad h => (by cases h), fun ad h => (by cases h)⟩
def encE (w : World) (g : Nat) (x : El w g) : List Value := [x.1.1.v, x.1.2.v]
def cfE (w : World) (g : Nat) (x y : El w g) : Int := cb x.1.1.l y.1.1.l

theorem swoE (w : World) (g : Nat) : SWO (ltOf (cfE w g)) where
  irrefl x := by unfold ltOf cfE; rw [cb_self]; rfl
  trans x y z h1 h2 := by
    unfold ltOf cfE at *
    simp only [decide_eq_true_eq] at *
    exact cb_le_lt (by omega) h2
  ntrans x y z h1 h2 := by
    unfold ltOf cfE at *
    simp only [decide_eq_false_iff_not] at *
    have := cb_trans z.1.1.l y.1.1.l x.1.1.l (by have := cb_neg y.1.1.l z.1.1.l; omega) (by have := cb_neg x.1.1.l y.1.1.l; omega)
    have := cb_neg x.1.1.l z.1.1.l
    omega

theorem cmpE (w : World) (g size : Nat) [Inhabited (El w g)] (hg : g < w.heap.size) : CmpLays Try.prog 33 #[] (encE w g) 2 (cfE w g) g 0 size w := by
  intro m os dk hd x y
  have hat : ∀ s : Sl, SlAt w s → Off g s → SlAt (sortWorldK (encE w g) 2 w g 0 m dk os) s := fun s h ho => ⟨h.1, h.2.1, h.2.2.1, fun j b hj => by
    obtain ⟨g', o, e, q⟩ := h.2.2.2 j b hj
    exact ⟨g', o, e, (cell?_sortWorldK_other (encE w g) 2 w g 0 m dk os ⟨g', o + j, none⟩ (ho ⟨g', o, none⟩ e) (World.block_lt_of_cell? w _ q)).trans q⟩⟩
  have h := clos33 x.1 y.1 (sortWorldK (encE w g) 2 w g 0 m dk os) (hat _ x.2.1.1 x.2.2.1) (hat _ y.2.1.1 y.2.2.1)
  refine (show Calls Try.prog 33 (#[.agg (encE w g x).toArray, .agg (encE w g y).toArray] ++ #[]) _ _ from h).mono ?_
  rintro e w' ⟨rfl, o1, o2, rfl⟩
  exact ⟨rfl, 0, _, by rw [alloc_eq_grow, alloc_eq_grow, grow_grow]; rfl⟩

theorem owns_sorted {α : Type} [Inhabited α] (enc : α → List Value) {w : World} {B g N n : Nat} {zs : List Value} {d : Array α} {os : Array Obj} (h : w.ownsRow B 32 2 (.slice (some ⟨g, 0, none⟩) N N) N zs) (hd : d.size = N) :
    (sortWorldK enc 2 w g 0 n d os).ownsRow B 32 2 (.slice (some ⟨g, 0, none⟩) N N) N (flatK enc 2 d).toList ∧ w.grownBy (sortWorldK enc 2 w g 0 n d os) (some g) := by
  have hglt : g < w.heap.size := (World.ownsRow.lt h g rfl).2
  rcases h.2 with ⟨h', _⟩ | ⟨g', cap, cur, he, hbg, hg, hnc, hcm, hcs, htake⟩
  · cases h'
  · simp only [Value.slice.injEq, Option.some.injEq, Addr.mk.injEq, and_true, true_and] at he
    obtain ⟨rfl, rfl⟩ := he
    have hsz : (putRowK enc 2 (Sort.ahead w n) g 0 d).heap.size = w.heap.size := size_putRowK _ _ _ _ _ _
    have hheap : ∀ k, k < w.heap.size → (sortWorldK enc 2 w g 0 n d os).heap[k]? = (putRowK enc 2 (Sort.ahead w n) g 0 d).heap[k]? := fun k hk => heap_grow_old _ _ (by rw [hsz]; exact hk)
    have hrow : (putRowK enc 2 (Sort.ahead w n) g 0 d).heap[g]? = some (.cells (flatK enc 2 d) 32 (0, 0)) := by
      show (w.heap.modify g (onCells (putCells id 0 (flatK enc 2 d))))[g]? = _
      rw [Array.getElem?_modify, if_pos rfl, hg]
      simp only [Option.map_some, onCells]
      congr 2
      apply Array.ext
      · simp only [putCells, Array.size_mapIdx, size_flatK, hcs, hd]
      · intro i h1 h2
        simp only [putCells, Array.getElem_mapIdx, Nat.zero_le, Nat.zero_add, true_and, Nat.sub_zero, id]
        rw [if_pos h2, getElem!_pos _ i h2]
    refine ⟨⟨by rw [Array.length_toList, size_flatK, hd], .inr ⟨g, N, flatK enc 2 d, rfl, hbg, by rw [hheap g hglt]; exact hrow, Nat.le_refl _, hcm, by rw [size_flatK, hd], List.take_of_length_le (by rw [Array.length_toList, size_flatK, hd]; exact Nat.le_refl _)⟩⟩, ⟨rfl, rfl, rfl, ?_, ?_⟩⟩
    · show w.heap.size ≤ (Sort.grow _ os).heap.size
      rw [size_grow, hsz]
      omega
    · intro k hk hne
      rw [hheap k hk]
      show (w.heap.modify g _)[k]? = w.heap[k]?
      rw [Array.getElem?_modify, if_neg (fun e => hne (by rw [e]))]

/-- The ranges as elements of the sort. -/
def elems (w : World) (g : Nat) (ys : List (Sl × Sl)) (h : ∀ p ∈ ys, (SlAt w p.1 ∧ SlAt w p.2) ∧ Off g p.1 ∧ Off g p.2) : List (El w g) := ys.attach.map fun p => ⟨p.1, h p.1 p.2⟩
theorem elems_val (w : World) (g : Nat) (ys : List (Sl × Sl)) (h : ∀ p ∈ ys, (SlAt w p.1 ∧ SlAt w p.2) ∧ Off g p.1 ∧ Off g p.2) : (elems w g ys h).map (·.1) = ys := by
  unfold elems
  rw [List.map_map]
  exact List.attach_map_subtype_val ys

theorem flat_at {w : World} {g : Nat} [Inhabited (El w g)] (d : Array (El w g)) (j : Nat) (hj : j < d.size) : (flatK (encE w g) 2 d).toList[j * 2]? = some (d[j]'hj).1.1.v ∧ (flatK (encE w g) 2 d).toList[j * 2 + 1]? = some (d[j]'hj).1.2.v := by
  have h0 : j * 2 < (flatK (encE w g) 2 d).size := by rw [size_flatK]; omega
  have h1 : j * 2 + 1 < (flatK (encE w g) 2 d).size := by rw [size_flatK]; omega
  have e0 := get_flatK (encE w g) 2 d (j * 2) (by omega)
  have e1 := get_flatK (encE w g) 2 d (j * 2 + 1) (by omega)
  rw [getElem!_pos (flatK (encE w g) 2 d) (j * 2) h0, show j * 2 / 2 = j from by omega, show j * 2 % 2 = 0 from by omega, getElem!_pos d j hj] at e0
  rw [getElem!_pos (flatK (encE w g) 2 d) (j * 2 + 1) h1, show (j * 2 + 1) / 2 = j from by omega, show (j * 2 + 1) % 2 = 1 from by omega, getElem!_pos d j hj] at e1
  refine ⟨?_, ?_⟩
  · rw [Array.getElem?_toList, Array.getElem?_eq_getElem h0, e0]; rfl
  · rw [Array.getElem?_toList, Array.getElem?_eq_getElem h1, e1]; rfl

def Sorted (ys : List (Sl × Sl)) : Prop := ys.Pairwise fun p q => cb p.1.l q.1.l ≤ 0

set_option maxHeartbeats 2000000 in
theorem sort32 (B g N : Nat) (ys : List (Sl × Sl)) (zs : List Value) (w : World) (hown : w.ownsRow B 32 2 (.slice (some ⟨g, 0, none⟩) N N) N zs) (hf : Fill zs ys) (hl : ys.length = N) (hN : N ≤ 1048576) (hall : AllAt w ys) (hoff : ∀ p ∈ ys, Off g p.1 ∧ Off g p.2) :
    Calls Try.prog 32 #[.slice (some ⟨g, 0, none⟩) N N, .func (.func 33) #[] #[]] w fun e w' => e = .returned (.tuple #[]) ∧ ∃ ys' zs', w'.ownsRow B 32 2 (.slice (some ⟨g, 0, none⟩) N N) N zs' ∧ Fill zs' ys' ∧ ys'.Perm ys ∧ Sorted ys' ∧ AllAt w' ys' ∧ w.grownBy w' (some g) := by
  have hglt : g < w.heap.size := (World.ownsRow.lt hown g rfl).2
  have hgd : ∀ p ∈ ys, (SlAt w p.1 ∧ SlAt w p.2) ∧ Off g p.1 ∧ Off g p.2 := fun p hp => ⟨hall p hp, hoff p hp⟩
  letI : Inhabited (El w g) := ⟨elNil w g⟩
  obtain ⟨d, hd⟩ : ∃ d : Array (El w g), d.toList = elems w g ys hgd := ⟨(elems w g ys hgd).toArray, by simp⟩
  have hdv : d.toList.map (·.1) = ys := by rw [hd]; exact elems_val w g ys hgd
  have hds : d.size = N := by rw [← hl, ← hdv, List.length_map, Array.length_toList]
  have hdat : ∀ j (hj : j < d.size), ys[j]? = some (d[j]'hj).1 := fun j hj => by
    rw [← hdv, List.getElem?_map, Array.getElem?_toList, Array.getElem?_eq_getElem hj]; rfl
  have eg : ∀ args w, (callFunc 33 args).run Try.prog w = .ok (.enter 33 args) w := enters_of Try.func33 (by kernel_rfl) rfl
  have hH : HoldsK (encE w g) 2 w g 0 d := by
    intro t ht
    rw [size_flatK] at ht
    have hj : t / 2 < d.size := by omega
    obtain ⟨f0, f1⟩ := flat_at d (t / 2) hj
    obtain ⟨z0, z1⟩ := hf (t / 2) _ (hdat (t / 2) hj)
    refine ⟨?_, by rw [Nat.zero_add]; exact hown.frozenAt t⟩
    have ht' : t < (flatK (encE w g) 2 d).size := by rw [size_flatK]; exact ht
    rw [Nat.zero_add, hown.cellAt t (by omega), id, getElem!_pos (flatK (encE w g) 2 d) t ht', ← Array.getElem_toList, ← List.getElem?_eq_getElem]
    rcases Nat.mod_two_eq_zero_or_one t with h2 | h2
    · have e : t = t / 2 * 2 := by omega
      rw [e, f0, z0]
    · have e : t = t / 2 * 2 + 1 := by omega
      rw [e, f1, z1]
  have hcon := AnyQ.slices_SortFunc Try.sortKR 2 Try.isAgg32 Try.sizeOf32 (encE w g) (fun _ => rfl) (fun x v hv => by simp [encE, Sl.v] at hv; rcases hv with rfl | rfl <;> rfl) (cfE w g) (swoE w g) 33 #[] g 0 N d w eg (cmpE w g d.size hglt) hH hglt (by omega)
  rw [hds] at hcon
  change Calls Try.prog 32 _ _ _ at hcon
  refine hcon.mono ?_
  rintro e w' ⟨rfl, d', n, os, ⟨hps, hpo, hpp⟩, hso, rfl⟩
  have hds' : d'.size = N := by rw [hps, hds]
  obtain ⟨ho', hg'⟩ := owns_sorted (encE w g) (n := n) (d := d') (os := os) hown hds'
  have hperm : d'.toList.Perm d.toList := by
    have h1 : (d'.extract 0 N).toList = d'.toList := by rw [← hds', Array.extract_size]
    have h2 : (d.extract 0 N).toList = d.toList := by rw [← hds, Array.extract_size]
    rw [h1, h2] at hpp
    exact hpp
  refine ⟨rfl, d'.toList.map (·.1), _, ho', ?_, ?_, ?_, ?_, hg'⟩
  · intro j p hj
    have hjl : j < d'.size := by
      rcases Nat.lt_or_ge j d'.size with h | h
      · exact h
      · rw [List.getElem?_eq_none (by simpa using h)] at hj; cases hj
    rw [List.getElem?_map, Array.getElem?_toList, Array.getElem?_eq_getElem hjl] at hj
    simp only [Option.map_some, Option.some.injEq] at hj
    subst hj
    exact flat_at d' j hjl
  · rw [← hdv]; exact hperm.map _
  · unfold Sorted
    rw [List.pairwise_map, List.pairwise_iff_getElem]
    intro i j hi hj hij
    have := hso i j (Nat.zero_le _) hij (by rw [← hds']; simpa using hj)
    unfold ltOf cfE at this
    rw [getElem!_pos d' j (by simpa using hj), getElem!_pos d' i (by simpa using hi)] at this
    simp only [decide_eq_false_iff_not] at this
    rw [Array.getElem_toList, Array.getElem_toList]
    have := cb_neg (d'[j]'(by simpa using hj)).1.1.l (d'[i]'(by simpa using hi)).1.1.l
    omega
  · intro p hp
    simp only [List.mem_map] at hp
    obtain ⟨x, _, rfl⟩ := hp
    exact ⟨x.2.1.1.kept hg' (fun k e => by cases e; exact x.2.2.1), x.2.1.2.kept hg' (fun k e => by cases e; exact x.2.2.2)⟩
end Go.Proofs.Qxb6600979a
