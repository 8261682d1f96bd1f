import Derived.Test.Qxb6615667aSortIn
import Derived.Deep.Slices
import Derived.Deep.Strs
import Derived.SizedLaws
namespace Go.Proofs.Qxb6615667a.Srt
open Go.ChangeShapes Go.WideShapes Go.ChangeAt Go.RowKit Plain

theorem lt_of_cell {w : World} {b o : Nat} {v : Value} (h : w.cell? ⟨b, o, none⟩ = some v) : b < w.heap.size := by
  by_cases hb : b < w.heap.size
  · exact hb
  · simp [World.cell?, Array.getElem?_eq_none (Nat.le_of_not_lt hb)] at h
theorem list_of {Q : Nat → Fd → Prop} : ∀ n, (∀ i, i < n → ∃ f, Q i f) → ∃ d : List Fd, d.length = n ∧ ∀ i, i < n → Q i (d[i]?.getD z0)
  | 0, _ => ⟨[], rfl, fun i hi => absurd hi (Nat.not_lt_zero _)⟩
  | n + 1, h => by
    obtain ⟨d, hd, hq⟩ := list_of n (fun i hi => h i (by omega))
    obtain ⟨f, hf⟩ := h n (by omega)
    refine ⟨d ++ [f], by simp [hd], fun i hi => ?_⟩
    by_cases e : i < n
    · rw [List.getElem?_append_left (by omega)]; exact hq i e
    · obtain rfl : i = n := by omega
      rw [List.getElem?_append_right (by omega), hd]; simpa using hf
theorem cells61 : Try.prog.cellsOf 61 = 3 := by kernel_rfl
theorem cells9 : Try.prog.cellsOf 9 = 1 := by kernel_rfl
theorem bytes61 : Try.prog.bytesOf 61 = 48 := by kernel_rfl

section
variable {H : Type} {enc : TypeId × Value → H}
set_option maxRecDepth 100000 in
/-- One finding that can be read: three strings, in three cells. -/
theorem open_one {W : World} {n : Nat} {cs : List Value} {x : DataW H × List MemPlace} (h : DataW.trod enc Try.prog W 0 (fun _ => true) true n 61 cs = some x) :
    ∃ f : Fd, cs = [.string f.1, .string f.2.1, .string f.2.2] ∧ f.1.size ≤ maxLen ∧ f.2.1.size ≤ maxLen ∧ f.2.2.size ≤ maxLen := by
  obtain ⟨y0, y1, y2, m, _, hl, h0, h1, h2⟩ := Deep.trod_struct3 Try.underlying61 h
  rw [cells61] at hl
  match cs, hl with
  | [u0, u1, u2], _ =>
    simp only [cells9, List.drop_zero, List.drop_succ_cons, List.take_succ_cons, List.take_zero] at h0 h1 h2
    obtain ⟨s0, e0, _, w0⟩ := DataW.trod_string Try.underlying9 h0
    obtain ⟨s1, e1, _, w1⟩ := DataW.trod_string Try.underlying9 h1
    obtain ⟨s2, e2, _, w2⟩ := DataW.trod_string Try.underlying9 h2
    simp at e0 e1 e2
    subst e0 e1 e2
    exact ⟨(s0, s1, s2), rfl, w0, w1, w2⟩
theorem cells_three {W : World} {a : Addr} {c0 c1 c2 : Value} (h : W.cells? 0 a 3 = some [c0, c1, c2]) : W.cell? (a.add 0) = some c0 ∧ W.cell? (a.add 1) = some c1 ∧ W.cell? (a.add 2) = some c2 := by
  unfold World.cells? at h
  rw [if_pos (Nat.zero_le _), show List.range 3 = [0, 1, 2] from rfl] at h
  simp only [List.mapM_cons, List.mapM_nil, Option.pure_def, Option.bind_eq_bind, Option.bind_eq_some_iff, Option.some.injEq] at h
  obtain ⟨d0, h0, r0, ⟨d1, h1, r1, ⟨d2, h2, r2, hr2, e1⟩, e0⟩, e⟩ := h
  subst hr2 e1 e0
  simp at e
  obtain ⟨rfl, rfl, rfl⟩ := e
  exact ⟨h0, h1, h2⟩
/-- A slice of findings that can be read. -/
theorem finds_open {W : World} {a : Option Addr} {len cap fuel : Nat} {d0 : DataW H} {p0 : List MemPlace} (hf : DataW.trod enc Try.prog W 0 (fun _ => true) true fuel 53 (Value.slice a len cap).cells.toList = some (d0, p0))
    (hw : ∀ elems spare, d0 = .slice elems spare → (elems.length + spare.length) * 48 ≤ 140737488351232) : ∃ d, Finds W a len cap d := by
  rcases Deep.open_slice Try.underlying53 hf with ⟨hcs, _⟩ | ⟨x, l, c, m, n, D, Pl, hcs, _, hl, hm, hmm, hx, hel⟩
  · simp [Value.cells] at hcs
    obtain ⟨rfl, rfl, rfl⟩ := hcs
    exact ⟨[], Nat.le_refl _, by omega, rfl, fun _ => ⟨rfl, rfl⟩, fun k hk => absurd hk (Nat.not_lt_zero _), fun f hf => by cases hf⟩
  · simp [Value.cells] at hcs
    obtain ⟨rfl, rfl, rfl⟩ := hcs
    simp only [if_true] at hmm
    subst hmm
    simp only [Prod.mk.injEq] at hx
    have hreach := hw _ _ hx.1
    simp only [List.length_map, List.length_range] at hreach
    have each : ∀ i, i < len → ∃ f : Fd, (W.cell? ((x.add (i * 3)).add 0) = some (.string f.1) ∧ W.cell? ((x.add (i * 3)).add 1) = some (.string f.2.1) ∧ W.cell? ((x.add (i * 3)).add 2) = some (.string f.2.2)) ∧ f.1.size ≤ maxLen ∧ f.2.1.size ≤ maxLen ∧ f.2.2.size ≤ maxLen := by
      intro i hi
      obtain ⟨cs', hc, ht⟩ := hel i (by omega)
      rw [cells61] at hc
      obtain ⟨f, rfl, w0, w1, w2⟩ := open_one ht
      exact ⟨f, cells_three hc, w0, w1, w2⟩
    obtain ⟨d, hd, hq⟩ := list_of len each
    refine ⟨d, hl, by omega, hd, (fun h => by cases h), fun k hk => ?_, fun f hf => ?_⟩
    · obtain ⟨b, off, spot⟩ := x
      have hspot : spot = none := by
        have h00 := (hq 0 (by omega)).1.1
        rw [Nat.zero_mul, Addr.add_zero', Addr.add_zero'] at h00
        exact World.cell?_spot h00
      subst hspot
      obtain ⟨⟨g0, g1, g2⟩, _⟩ := hq k hk
      rw [add_plain, add_plain] at g0 g1 g2
      exact ⟨b, off, rfl, lt_of_cell g0, g0, g1, g2⟩
    · obtain ⟨i, hi, rfl⟩ := List.getElem_of_mem hf
      have := (hq i (by omega)).2
      rw [List.getElem?_eq_getElem hi] at this
      exact this
end
end Go.Proofs.Qxb6615667a.Srt
