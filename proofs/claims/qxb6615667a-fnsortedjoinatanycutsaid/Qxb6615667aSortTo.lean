import Derived.Test.Qxb6615667aSortIn
import Derived.Deep.RegionWith
namespace Go.Proofs.Qxb6615667a.Srt
open Go.ChangeShapes Go.WideShapes Go.ChangeAt Go.RowKit Plain

theorem info65z : (Try.prog.info? 65).map (fun i => (i.zero, i.size, i.bytes)) = some (some (.agg #[.string ByteArray.empty, .string ByteArray.empty, .string ByteArray.empty]), 3, 48) := by kernel_rfl

theorem to23_nil (w : World) : Calls Try.prog 23 #[.slice none 0 0] w fun e w' => e = .returned (.slice none 0 0) ∧ w' = w := by
  have he := fun w a l c => Lib.run_eql_slice_nil (P := Try.prog) w 53 61 a l c 0 0 Try.underlying53
  go_enter Try.func23, Try.ntmps23
  go_wp2
  go_ret
  exact ⟨rfl, rfl⟩

/-- The cells laid so far. -/
def Laid (w : World) (B n k : Nat) (d : List Fd) : Prop := ∃ l : List Value, w.heap[B]? = some (.cells l.toArray 65 (0, 0)) ∧ l.length = n * 3 ∧ ∀ t, t < k * 3 → l[t]? = (flat d)[t]?
theorem Laid.step {w : World} {B n k : Nat} {d : List Fd} (h : Laid w B n k d) (hk : k < n) (hn : d.length = n) :
    Laid (((w.setCell ⟨B, k * 3, none⟩ (.string (d[k]?.getD z0).1)).setCell ⟨B, k * 3 + 1, none⟩ (.string (d[k]?.getD z0).2.1)).setCell ⟨B, k * 3 + 2, none⟩ (.string (d[k]?.getD z0).2.2)) B n (k + 1) d := by
  obtain ⟨l, hl, hlen, hget⟩ := h
  refine ⟨_, row_store (row_store (row_store hl _ _) _ _) _ _, by simp [hlen], fun t ht => ?_⟩
  have e : d[k]? = some d[k] := List.getElem?_eq_getElem (by omega)
  simp only [List.getElem?_set, List.length_set, hlen, flat_get]
  by_cases h0 : t / 3 = k
  · have hm : t % 3 = 0 ∨ t % 3 = 1 ∨ t % 3 = 2 := by omega
    rw [h0, e]
    rcases hm with hm | hm | hm
    · rw [if_neg (by omega), if_neg (by omega), if_pos (by omega), if_pos (by omega)]; simp [cellAt, hm]
    · rw [if_neg (by omega), if_pos (by omega), if_pos (by omega)]; simp [cellAt, hm]
    · rw [if_pos (by omega), if_pos (by omega)]; simp [cellAt, hm]
  · rw [if_neg (by omega), if_neg (by omega), if_neg (by omega), hget t (by omega), flat_get]
theorem Laid.done {w : World} {B n : Nat} {d : List Fd} (h : Laid w B n n d) (hn : d.length = n) : Row w B d := by
  obtain ⟨l, hl, hlen, hget⟩ := h
  have : l = flat d := List.ext_getElem? fun t => by
    by_cases ht : t < n * 3
    · exact hget t ht
    · rw [List.getElem?_eq_none (by omega), List.getElem?_eq_none (by rw [flat_length]; omega)]
  unfold Row
  rw [← this]; exact hl
theorem Laid.spot {w : World} {B n k : Nat} {d : List Fd} (h : Laid w B n k d) (t : Nat) (ht : t < n * 3) : (∃ v, w.cell? ⟨B, t, none⟩ = some v) ∧ w.frozen? ⟨B, t, none⟩ = false := by
  obtain ⟨l, hl, hlen, hget⟩ := h
  refine ⟨⟨l[t], ?_⟩, frozen_of_row w B t _ _ hl⟩
  rw [cell_of_row w B t _ _ _ hl, List.getElem?_toArray]
  exact List.getElem?_eq_getElem (by omega)
theorem Laid.drew {w : World} {B n k : Nat} {d : List Fd} (h : Laid w B n k d) : Laid w.drew B n k d := h

set_option maxHeartbeats 2000000 in
set_option maxRecDepth 100000 in
theorem to23_some (x : Addr) (len cap : Nat) (d : List Fd) (w : World) (hs : Finds w (some x) len cap d) (hnb : len ≤ 65536) :
    Calls Try.prog 23 #[.slice (some x) len cap] w fun e w' => e = .returned (.slice (some ⟨w.heap.size, 0, none⟩) len len) ∧ Below w.heap.size w w' ∧ Row w' w.heap.size d := by
  have hl := hs.le
  have hr := hs.reach
  obtain ⟨i0, hi, hz0, hz1, hz2⟩ := info_parts info65z
  have he := fun w a l c => Lib.run_eql_slice_nil (P := Try.prog) w 53 61 a l c 0 0 Try.underlying53
  go_enter Try.func23, Try.ntmps23
  go_wp2_with (at_make; refine wpList_make_full _ rfl (.tmp 8) (.tmp 8) 57 rfl w.heap.size 65 i0 _ 3 Try.underlying57 hi hz0 hz1 _ _ _ _ len rfl rfl rfl rfl (by rw [hz2]; omega) (by unfold maxLen; omega) (Nat.le_refl _) ?_; intro w1 hown hgrow)
  have hbel : Below w.heap.size w w1 := (Below.refl _ _).grown hgrow (Nat.le_refl _) (fun _ h => by cases h)
  have hL0 : Laid w1 w.heap.size len 0 d := by
    rcases hown.2 with ⟨h, _⟩ | ⟨g, c, cur, h, hg, hh, _, _, hsz, _⟩
    · simp at h
    · simp only [Value.slice.injEq, Option.some.injEq, Addr.mk.injEq, and_true, true_and] at h
      obtain ⟨rfl, rfl⟩ := h
      exact ⟨cur.toList, by simpa using hh, by simpa using hsz, fun t ht => by omega⟩
  clear hgrow hown hi hz0 hz1 hz2
  go_loopw [4] (fun i wr => ∃ k : Nat, k ≤ len ∧ i = .int .i64 k ∧ Below w.heap.size w wr ∧ Laid wr w.heap.size len k d) (fun i _ => len - (intOf i).toNat)
  case atStart => exact ⟨0, Nat.zero_le _, rfl, hbel, hL0⟩
  case round =>
    obtain ⟨k, hk, rfl, hbl, hL⟩ := hrel
    clear hbel hL0
    by_cases hlt : k < len
    · obtain ⟨b, off, hx, hb, c0, c1, c2⟩ := hs.cells k hlt
      simp only [Option.some.injEq] at hx
      subst hx
      have g0 := (hbl.cell (p := ⟨b, off + k * 3, none⟩) hb).trans c0
      have g1 := (hbl.cell (p := ⟨b, off + k * 3 + 1, none⟩) hb).trans c1
      have g2 := (hbl.cell (p := ⟨b, off + k * 3 + 2, none⟩) hb).trans c2
      obtain ⟨⟨v0, s0⟩, f0⟩ := hL.spot (k * 3) (by omega)
      obtain ⟨⟨v1, s1⟩, f1⟩ := hL.spot (k * 3 + 1) (by omega)
      obtain ⟨⟨v2, s2⟩, f2⟩ := hL.spot (k * 3 + 2) (by omega)
      have HL : Hid (Laid (((wr.setCell ⟨w.heap.size, k * 3, none⟩ (.string (d[k]?.getD z0).1)).setCell ⟨w.heap.size, k * 3 + 1, none⟩ (.string (d[k]?.getD z0).2.1)).setCell ⟨w.heap.size, k * 3 + 2, none⟩ (.string (d[k]?.getD z0).2.2)) w.heap.size len (k + 1) d) := hL.step hlt hs.num
      have hi : (k : Int) < (len : Int) := by omega
      clear c0 c1 c2 hs hL
      generalize (d[k]?.getD z0).1 = t1 at *
      generalize (d[k]?.getD z0).2.1 = t2 at *
      generalize (d[k]?.getD z0).2.2 = t3 at *
      go_wp2
      go_region
      go_wp2
      go_roundw
      case rel => exact ⟨k + 1, by omega, by go_num, (((hbl.setCell (p := ⟨_, _, none⟩) (Nat.le_refl _) _).setCell (p := ⟨_, _, none⟩) (Nat.le_refl _) _).setCell (p := ⟨_, _, none⟩) (Nat.le_refl _) _).drew, HL.out.drew⟩
      case measure => simp [intOf]; omega
    · have e : k = len := by omega
      subst e
      have HR : Hid (Row wr w.heap.size d) := hL.done hs.num
      clear hL hs
      go_wp2
      go_ret
      exact ⟨rfl, hbl, HR.out⟩

/-- toFindings: nil of nil; else a row of its own with the same findings. -/
theorem to23 (a : Option Addr) (len cap : Nat) (d : List Fd) (w : World) (hs : Finds w a len cap d) (hnb : len ≤ 65536) :
    Calls Try.prog 23 #[.slice a len cap] w fun e w' => ∃ p, e = .returned (.slice p len len) ∧ FindRow w' p len d ∧ Below w.heap.size w w' ∧ w.heap.size ≤ bk p w' := by
  cases a with
  | none =>
    obtain ⟨rfl, rfl⟩ := hs.non rfl
    refine (to23_nil w).mono ?_
    rintro e w' ⟨rfl, rfl⟩
    exact ⟨none, rfl, ⟨hs.num, Or.inl ⟨rfl, rfl⟩⟩, Below.refl _ _, Nat.le_refl _⟩
  | some x =>
    refine (to23_some x len cap d w hs hnb).mono ?_
    rintro e w' ⟨rfl, hb, hR⟩
    exact ⟨_, rfl, ⟨hs.num, Or.inr ⟨_, rfl, hR⟩⟩, hb, Nat.le_refl _⟩

/-- sameFinding of one and the same. -/
theorem same25 (f : Fd) (w : World) : Calls Try.prog 25 #[.agg #[.string f.1, .string f.2.1, .string f.2.2], .agg #[.string f.1, .string f.2.1, .string f.2.2]] w fun e w' => e = .returned (.bool true) ∧ Below w.heap.size w w' := by
  go_enter Try.func25, Try.ntmps25
  go_wp2
  go_ret
  exact ⟨rfl, ((Below.refl _ _).alloc (Nat.le_refl _) _).alloc (by simp) _⟩
end Go.Proofs.Qxb6615667a.Srt
