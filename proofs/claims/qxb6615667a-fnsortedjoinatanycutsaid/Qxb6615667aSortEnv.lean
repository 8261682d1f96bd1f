import Derived.Test.Qxb6615667aSortRow
namespace Go.Proofs.Qxb6615667a.Srt
open Go.ChangeShapes Go.WideShapes Go.ChangeAt Go.RowKit Plain Go.Lib

theorem info65 : (Try.prog.info? 65).map (·.size) = some 3 := by kernel_rfl
theorem agg65 (w : World) : (isAgg 65).run Try.prog w = .ok true w := by kernel_rfl
/-- Swapper's literal, bound to the row of n findings in block blk: two elements within the length change places. -/
def SwapOk (H : Value) (blk n : Nat) : Prop := ∀ (d : List Fd) (w : World) (i j : Nat), Row w blk d → d.length = n → i < n → j < n →
    ∃ w2, (callFunc 51 #[.int .i64 i, .int .i64 j, .slice (some ⟨blk, 0, none⟩) n n, H]).run Try.prog w = .ok (.value (.tuple #[])) w2 ∧ Row w2 blk (swp z0 d i j) ∧ Fr blk w w2

theorem row_store {w : World} {blk : Nat} {l : List Value} {t : TypeId} (h : w.heap[blk]? = some (.cells l.toArray t (0, 0))) (i : Nat) (v : Value) : (w.setCell ⟨blk, i, none⟩ v).heap[blk]? = some (.cells (l.set i v).toArray t (0, 0)) := by
  rw [heap_setCell_same w blk i l.toArray t v h, List.setIfInBounds_toArray]
theorem Fr.setCell {blk : Nat} (w : World) (i : Nat) (v : Value) : Fr blk w (w.setCell ⟨blk, i, none⟩ v) := ⟨rfl, rfl, rfl, by simp [World.setCell], fun k _ hn => Below.heap_setCell _ _ _ _ hn⟩

theorem swap51 (blk n : Nat) : SwapOk (typeHandle Try.prog 65) blk n := by
  intro d w i j hR hn hi hj
  obtain ⟨ie, hie, hs⟩ := Option.map_eq_some_iff.1 info65
  have ei : d[i]? = some d[i] := List.getElem?_eq_getElem (by omega)
  have ej : d[j]? = some d[j] := List.getElem?_eq_getElem (by omega)
  have ci := hR.elem i (by omega)
  have cj := hR.elem j (by omega)
  rw [ei] at ci
  rw [ej] at cj
  simp only [Option.getD_some] at ci cj
  have hsw := run_swap_cells (P := Try.prog) false 65 ie hie agg65 blk 0 n n i j hi hj (cellsOf d[i]) (cellsOf d[j]) (by rw [hs]; rfl) (by rw [hs]; rfl)
    (by intro v hv; simp [cellsOf] at hv; rcases hv with rfl | rfl | rfl <;> rfl) (by intro v hv; simp [cellsOf] at hv; rcases hv with rfl | rfl | rfl <;> rfl) w
    (by
      intro k v hk
      rw [hs, Nat.zero_add]
      match k, hk with
      | 0, hk => simp [cellsOf] at hk; subst hk; exact ci.1
      | 1, hk => simp [cellsOf] at hk; subst hk; exact ci.2.1
      | 2, hk => simp [cellsOf] at hk; subst hk; exact ci.2.2
      | k + 3, hk => simp [cellsOf] at hk)
    (by
      intro k v hk
      rw [hs, Nat.zero_add]
      match k, hk with
      | 0, hk => simp [cellsOf] at hk; subst hk; exact cj.1
      | 1, hk => simp [cellsOf] at hk; subst hk; exact cj.2.1
      | 2, hk => simp [cellsOf] at hk; subst hk; exact cj.2.2
      | k + 3, hk => simp [cellsOf] at hk)
    (fun k _ => hR.free _) (fun k _ => hR.free _)
  rw [hs, Nat.zero_add, Nat.zero_add] at hsw
  refine ⟨(w.setCells blk (i * 3) (cellsOf d[j])).setCells blk (j * 3) (cellsOf d[i]), ?_, ?_, ?_⟩
  · rw [run_callFunc_extern Try.func51 (by kernel_rfl) (by kernel_rfl) (by kernel_rfl) (e := Extern.ReflectliteSwapper.swap false) (by kernel_rfl)]
    rw [hsw]
    rfl
  · unfold Row at *
    have h6 := row_store (row_store (row_store (row_store (row_store (row_store hR (i * 3) (.string d[j].1)) (i * 3 + 1) (.string d[j].2.1)) (i * 3 + 2) (.string d[j].2.2)) (j * 3) (.string d[i].1)) (j * 3 + 1) (.string d[i].2.1)) (j * 3 + 2) (.string d[i].2.2)
    rw [flat_swp d i j (by omega) (by omega) d[i] d[j] ei ej] at h6
    exact h6
  · exact ((((((Fr.setCell w (i * 3) _).trans (Fr.setCell _ (i * 3 + 1) _)).trans (Fr.setCell _ (i * 3 + 2) _)).trans (Fr.setCell _ (j * 3) _)).trans (Fr.setCell _ (j * 3 + 1) _)).trans (Fr.setCell _ (j * 3 + 2) _))

/-- What the closure looks at: the captured variable, the linter's one field. -/
structure Env (V L blk n : Nat) (w : World) : Prop where
  vlt : V < w.heap.size
  llt : L < w.heap.size
  vne : V ≠ blk
  lne : L ≠ blk
  vcell : w.cell? ⟨V, 0, none⟩ = some (.pointer (some ⟨L, 0, none⟩))
  lcell : w.cell? ⟨L, 0, none⟩ = some (.slice (some ⟨blk, 0, none⟩) n n)
theorem Env.fr {V L blk n : Nat} {w w' : World} (h : Env V L blk n w) (f : Fr blk w w') : Env V L blk n w' :=
  ⟨Nat.lt_of_lt_of_le h.vlt f.size, Nat.lt_of_lt_of_le h.llt f.size, h.vne, h.lne, (f.cell h.vlt h.vne).trans h.vcell, (f.cell h.llt h.lne).trans h.lcell⟩

/-- 'less' -/
theorem less35 (V L blk n i j : Nat) (d : List Fd) (w : World) (hE : Env V L blk n w) (hR : Row w blk d) (hn : d.length = n) (hi : i < n) (hj : j < n) :
    Calls Try.prog 35 #[.int .i64 i, .int .i64 j, .pointer (some ⟨V, 0, none⟩)] w fun e w' => e = .returned (.bool (ls key z0 d i j)) ∧ w' = w := by
  have hv := hE.vcell
  have hl := hE.lcell
  have ci := (hR.elem i (by omega)).1
  have cj := (hR.elem j (by omega)).1
  have hii : (i : Int) < (n : Int) := by omega
  have hjj : (j : Int) < (n : Int) := by omega
  have e1 : ls key z0 d i j = (mustB (d[i]?.getD z0).1 && !mustB (d[j]?.getD z0).1) := rfl
  rw [e1]
  clear e1 hE hR hn
  generalize (d[i]?.getD z0).1 = ri at *
  generalize (d[j]?.getD z0).1 = rj at *
  cases hri : mustB ri with
  | false =>
    go_enter Try.func35, Try.ntmps35
    go_wp2_with (go_at_call 36; refine (level36_other _ _ hri).mono ?_; rintro e w' ⟨⟨v, rfl, hv4⟩, rfl⟩)
    go_ret
    exact ⟨rfl, rfl⟩
  | true =>
    cases hrj : mustB rj with
    | true =>
      go_enter Try.func35, Try.ntmps35
      go_wp2_with fail
      refine (level36_must ri _ hri).mono ?_
      rintro e w' ⟨rfl, rfl⟩
      go_wp2_with fail
      refine (level36_must rj _ hrj).mono ?_
      rintro e w' ⟨rfl, rfl⟩
      go_wp2
      go_ret
      exact ⟨rfl, rfl⟩
    | false =>
      go_enter Try.func35, Try.ntmps35
      go_wp2_with fail
      refine (level36_must ri _ hri).mono ?_
      rintro e w' ⟨rfl, rfl⟩
      go_wp2_with fail
      refine (level36_other rj _ hrj).mono ?_
      rintro e w' ⟨⟨v, rfl, hv4⟩, rfl⟩
      go_wp2
      go_ret
      exact ⟨rfl, rfl⟩
end Go.Proofs.Qxb6615667a.Srt
