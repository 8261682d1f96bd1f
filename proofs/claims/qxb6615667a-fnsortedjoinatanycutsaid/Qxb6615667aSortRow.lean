import Derived.Test.Qxb6615667aSortMust
namespace Go.Proofs.Qxb6615667a.Srt
open Go.ChangeShapes Go.WideShapes Go.ChangeAt Go.RowKit Plain

/-! ### THE ROW OF FINDINGS IN MEMORY -/
def cellsOf (f : Fd) : List Value := [.string f.1, .string f.2.1, .string f.2.2]
def flat (d : List Fd) : List Value := d.flatMap cellsOf
theorem flat_length (d : List Fd) : (flat d).length = d.length * 3 := by
  induction d with
  | nil => rfl
  | cons x r ih => simp only [flat, List.flatMap_cons, List.length_append, List.length_cons] at ih ⊢; rw [ih]; simp [cellsOf]; omega
/-- Cell u of an element. -/
def cellAt (f : Fd) (u : Nat) : Value := if u = 0 then .string f.1 else if u = 1 then .string f.2.1 else .string f.2.2
theorem flat_get (d : List Fd) (t : Nat) : (flat d)[t]? = (d[t / 3]?).map fun f => cellAt f (t % 3) := by
  induction d generalizing t with
  | nil => simp [flat]
  | cons x r ih =>
    have e : flat (x :: r) = cellsOf x ++ flat r := rfl
    have lx : (cellsOf x).length = 3 := rfl
    rw [e]
    by_cases h : t < 3
    · rw [List.getElem?_append_left (by omega), show t / 3 = 0 by omega]
      match t, h with
      | 0, _ => rfl
      | 1, _ => rfl
      | 2, _ => rfl
    · rw [List.getElem?_append_right (by omega), ih, lx, show t / 3 = (t - 3) / 3 + 1 by omega, show (t - 3) % 3 = t % 3 by omega]
      simp
theorem flat_swp (d : List Fd) (i j : Nat) (hi : i < d.length) (hj : j < d.length) (fi fj : Fd) (ei : d[i]? = some fi) (ej : d[j]? = some fj) :
    ((((((flat d).set (i * 3) (.string fj.1)).set (i * 3 + 1) (.string fj.2.1)).set (i * 3 + 2) (.string fj.2.2)).set (j * 3) (.string fi.1)).set (j * 3 + 1) (.string fi.2.1)).set (j * 3 + 2) (.string fi.2.2) = flat (swp z0 d i j) := by
  refine List.ext_getElem? fun t => ?_
  rw [flat_get, swp_get z0 d i j hi hj]
  have hl := flat_length d
  simp only [List.getElem?_set, List.length_set, flat_get, hl]
  unfold sw
  by_cases hjt : t / 3 = j
  · have hd : d[if t / 3 = i then j else if t / 3 = j then i else t / 3]? = some fi := by
      by_cases c : t / 3 = i
      · rw [if_pos c, show j = i by omega]; exact ei
      · rw [if_neg c, if_pos hjt]; exact ei
    rw [hd]
    have hm : t % 3 = 0 ∨ t % 3 = 1 ∨ t % 3 = 2 := by omega
    rcases hm with hm | hm | hm
    · rw [if_neg (by omega), if_neg (by omega), if_pos (by omega), if_pos (by omega)]; simp [cellAt, hm]
    · rw [if_neg (by omega), if_pos (by omega), if_pos (by omega)]; simp [cellAt, hm]
    · rw [if_pos (by omega), if_pos (by omega)]; simp [cellAt, hm]
  · rw [if_neg (by omega), if_neg (by omega), if_neg (by omega)]
    by_cases hit : t / 3 = i
    · rw [if_pos hit, ej]
      have hm : t % 3 = 0 ∨ t % 3 = 1 ∨ t % 3 = 2 := by omega
      rcases hm with hm | hm | hm
      · rw [if_neg (by omega), if_neg (by omega), if_pos (by omega), if_pos (by omega)]; simp [cellAt, hm]
      · rw [if_neg (by omega), if_pos (by omega), if_pos (by omega)]; simp [cellAt, hm]
      · rw [if_pos (by omega), if_pos (by omega)]; simp [cellAt, hm]
    · rw [if_neg (by omega), if_neg (by omega), if_neg (by omega), if_neg hit, if_neg hjt]

/-- Block blk is a row of findings, of just these. -/
def Row (w : World) (blk : Nat) (d : List Fd) : Prop := w.heap[blk]? = some (.cells (flat d).toArray 65 (0, 0))
theorem Row.cell {w : World} {blk : Nat} {d : List Fd} (h : Row w blk d) (t : Nat) : w.cell? ⟨blk, t, none⟩ = (d[t / 3]?).map fun f => cellAt f (t % 3) := by
  rw [cell_of_row w blk t _ _ _ h, List.getElem?_toArray, flat_get]
theorem Row.free {w : World} {blk : Nat} {d : List Fd} (h : Row w blk d) (t : Nat) : w.frozen? ⟨blk, t, none⟩ = false := frozen_of_row w blk t _ _ h
theorem Row.lt {w : World} {blk : Nat} {d : List Fd} (h : Row w blk d) : blk < w.heap.size := by
  obtain ⟨h1, _⟩ := Array.getElem?_eq_some_iff.1 h
  exact h1
/-- Element t's three cells. -/
theorem Row.elem {w : World} {blk : Nat} {d : List Fd} (h : Row w blk d) (t : Nat) (ht : t < d.length) :
    w.cell? ⟨blk, t * 3, none⟩ = some (.string (d[t]?.getD z0).1) ∧ w.cell? ⟨blk, t * 3 + 1, none⟩ = some (.string (d[t]?.getD z0).2.1) ∧ w.cell? ⟨blk, t * 3 + 2, none⟩ = some (.string (d[t]?.getD z0).2.2) := by
  refine ⟨?_, ?_, ?_⟩
  · rw [h.cell, show t * 3 / 3 = t by omega, show t * 3 % 3 = 0 by omega, List.getElem?_eq_getElem ht]; rfl
  · rw [h.cell, show (t * 3 + 1) / 3 = t by omega, show (t * 3 + 1) % 3 = 1 by omega, List.getElem?_eq_getElem ht]; rfl
  · rw [h.cell, show (t * 3 + 2) / 3 = t by omega, show (t * 3 + 2) % 3 = 2 by omega, List.getElem?_eq_getElem ht]; rfl

/-- Every old block but blk is as it was. -/
structure Fr (blk : Nat) (w w' : World) : Prop where
  os : w'.os = w.os
  tape : w'.tape = w.tape
  output : w'.output = w.output
  size : w.heap.size ≤ w'.heap.size
  block : ∀ k, k < w.heap.size → k ≠ blk → w'.heap[k]? = w.heap[k]?
theorem Fr.refl (blk : Nat) (w : World) : Fr blk w w := ⟨rfl, rfl, rfl, Nat.le_refl _, fun _ _ _ => rfl⟩
theorem Fr.trans {blk : Nat} {a b c : World} (h : Fr blk a b) (k : Fr blk b c) : Fr blk a c :=
  ⟨k.os.trans h.os, k.tape.trans h.tape, k.output.trans h.output, Nat.le_trans h.size k.size, fun i hi hn => (k.block i (Nat.lt_of_lt_of_le hi h.size) hn).trans (h.block i hi hn)⟩
theorem Fr.alloc {blk : Nat} (w : World) (o : Obj) : Fr blk w (w.alloc o) := ⟨rfl, rfl, rfl, by simp, fun k hk _ => Below.heap_alloc _ _ _ hk⟩
theorem Fr.cell {blk : Nat} {w w' : World} (h : Fr blk w w') {b o : Nat} (hb : b < w.heap.size) (hn : b ≠ blk) : w'.cell? ⟨b, o, none⟩ = w.cell? ⟨b, o, none⟩ := World.cell?_of_block (w := w) (h.block b hb hn)
theorem Fr.frozen {blk : Nat} {w w' : World} (h : Fr blk w w') {b o : Nat} (hb : b < w.heap.size) (hn : b ≠ blk) : w'.frozen? ⟨b, o, none⟩ = w.frozen? ⟨b, o, none⟩ := World.frozen?_of_block (w := w) (h.block b hb hn)
theorem Fr.below {blk B : Nat} {w w' : World} (h : Fr blk w w') (hB : B ≤ blk) (hs : B ≤ w.heap.size) : Below B w w' := ⟨h.os, h.tape, h.output, h.size, fun k hk => h.block k (by omega) (by omega)⟩
theorem Row.alloc {w : World} {blk : Nat} {d : List Fd} (h : Row w blk d) (o : Obj) : Row (w.alloc o) blk d := by
  unfold Row at *
  rw [Below.heap_alloc _ _ _ (Row.lt h)]; exact h

end Go.Proofs.Qxb6615667a.Srt
