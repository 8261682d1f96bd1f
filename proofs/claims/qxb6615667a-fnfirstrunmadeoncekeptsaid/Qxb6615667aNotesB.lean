import Derived.Test.Qxb6615667aNotesA
import Derived.WalkSpells
import Derived.Lib.SliceRun
import Derived.Conc.SmallLaws
namespace Go.Proofs.Qxb6615667a.Notes
open Go.ChangeShapes Go.WideShapes Go.ChangeAt Go.RowKit

theorem Strs.below {w w' : World} {a : Option Addr} {len cap : Nat} {ss : List ByteArray} (h : Strs w a len cap ss) (hb : Below w.heap.size w w') : Strs w' a len cap ss :=
  ⟨h.le, h.reach, h.num, h.non, fun k hk => by
    obtain ⟨b, off, e, hl, hc⟩ := h.cells k hk
    exact ⟨b, off, e, Nat.lt_of_lt_of_le hl hb.size, (hb.cell (p := ⟨b, off + k, none⟩) hl).trans hc⟩, h.short⟩

theorem info9 : (Try.prog.info? 9).map (fun i => (i.zero, i.size, i.bytes)) = some (some (.string ByteArray.empty), 1, 16) := by kernel_rfl

set_option maxHeartbeats 1000000 in
set_option maxRecDepth 100000 in
theorem clone14_nil (w : World) : Calls Try.prog 14 #[.slice none 0 0] w fun e w' => e = .returned (.slice none 0 0) ∧ w' = w := by
  have he := fun w a l c => Lib.run_eql_slice_nil (P := Try.prog) w 25 9 a l c 0 0 Try.underlying25
  go_enter Try.func14, Try.ntmps14
  go_wp2
  go_ret
  exact ⟨rfl, rfl⟩

set_option maxHeartbeats 1000000 in
set_option maxRecDepth 100000 in
theorem clone14_some (x : Addr) (len cap : Nat) (ss : List ByteArray) (w : World) (hs : Strs w (some x) len cap ss) :
    Calls Try.prog 14 #[.slice (some x) len cap] w fun e w' => e = .returned (.slice (some ⟨w.heap.size, 0, none⟩) len len) ∧ Below w.heap.size w w' ∧
      ∃ xs, w'.ownsRow w.heap.size 9 1 (.slice (some ⟨w.heap.size, 0, none⟩) len len) len xs ∧ ∀ j, j < len → xs[j]? = some (.string (ss[j]?.getD ByteArray.empty)) := by
  have hl := hs.le
  have hr := hs.reach
  obtain ⟨i0, hi, hz0, hz1, hz2⟩ := info_parts info9
  have he := fun w a l c => Lib.run_eql_slice_nil (P := Try.prog) w 25 9 a l c 0 0 Try.underlying25
  go_enter Try.func14, Try.ntmps14
  go_wp2_with (at_make; refine wpList_make_full _ rfl (.tmp 8) (.tmp 8) 25 rfl w.heap.size 9 i0 _ 1 Try.underlying25 hi hz0 hz1 _ _ _ _ len rfl rfl rfl rfl (by rw [hz2]; omega) (by unfold maxLen; omega) (Nat.le_refl _) ?_; intro w1 hown hgrow)
  have hbel : Below w.heap.size w w1 := (Below.refl _ _).grown hgrow (Nat.le_refl _) (fun _ h => by cases h)
  clear hgrow hi hz0 hz1 hz2
  go_loopw [4] (fun i wr => ∃ (k : Nat) (xs : List Value), k ≤ len ∧ i = .int .i64 k ∧ wr.ownsRow w.heap.size 9 1 (.slice (some ⟨w.heap.size, 0, none⟩) len len) len xs ∧ Below w.heap.size w wr ∧ ∀ j, j < k → xs[j]? = some (.string (ss[j]?.getD ByteArray.empty))) (fun i _ => len - (intOf i).toNat)
  case atStart => exact ⟨0, _, Nat.zero_le _, rfl, hown, hbel, fun j hj => absurd hj (Nat.not_lt_zero _)⟩
  case round =>
    obtain ⟨k, xs, hk, rfl, how, hbl, hxs⟩ := hrel
    clear hown hbel
    by_cases hlt : k < len
    · obtain ⟨b, off, hx, hb, hc⟩ := hs.cells k hlt
      simp only [Option.some.injEq] at hx
      subst hx
      have hlen : xs.length = len := by have := how.1; omega
      have hc' := (hbl.cell (p := ⟨b, off + k, none⟩) hb).trans hc
      obtain ⟨u0, ho⟩ : ∃ u, wr.cell? ⟨w.heap.size, k, none⟩ = some u := ⟨_, by rw [how.cellAt k (by omega)]; exact List.getElem?_eq_getElem (by omega)⟩
      have hf := how.frozenAt k
      have hst := how.stored k (.string (ss[k]?.getD ByteArray.empty))
      have R : ∀ j, j < k + 1 → (xs.set k (.string (ss[k]?.getD ByteArray.empty)))[j]? = some (.string (ss[j]?.getD ByteArray.empty)) := by
        intro j hj
        by_cases e : j = k
        · subst e; simp [hlen, hlt]
        · rw [List.getElem?_set_ne (by omega)]; exact hxs j (by omega)
      have hb2 := hbl.setCell (p := ⟨w.heap.size, k, none⟩) (Nat.le_refl _) (.string (ss[k]?.getD ByteArray.empty))
      have HST : Hid ((wr.setCell ⟨w.heap.size, k, none⟩ (.string (ss[k]?.getD ByteArray.empty))).ownsRow w.heap.size 9 1 (.slice (some ⟨w.heap.size, 0, none⟩) len len) len (xs.set k (.string (ss[k]?.getD ByteArray.empty)))) := hst.1
      have HB2 : Hid _ := hb2
      have HR : Hid _ := R
      clear hst hb2 R hxs how hbl hs hlen
      go_wp2
      go_roundw
      case rel => exact ⟨k + 1, _, by omega, by go_num, HST.out, HB2.out, HR.out⟩
      case measure => simp [intOf]; omega
    · have hkl : k = len := by omega
      subst hkl
      go_wp2
      go_ret
      exact ⟨rfl, hbl, xs, how, hxs⟩

theorem clone14 (a : Option Addr) (len cap : Nat) (ss : List ByteArray) (w : World) (hs : Strs w a len cap ss) :
    Calls Try.prog 14 #[.slice a len cap] w fun e w' => ∃ a' cap', e = .returned (.slice a' len cap') ∧ Strs w' a' len cap' ss ∧ a'.isNone = a.isNone ∧ Below w.heap.size w w' := by
  cases a with
  | none =>
    obtain ⟨rfl, rfl⟩ := hs.non rfl
    refine (clone14_nil w).mono ?_
    rintro e w' ⟨rfl, rfl⟩
    exact ⟨none, 0, rfl, hs, rfl, Below.refl _ _⟩
  | some x =>
    refine (clone14_some x len cap ss w hs).mono ?_
    rintro e w' ⟨rfl, hb, xs, hown, hxs⟩
    have hl := hs.le
    have hr := hs.reach
    have hsz : w.heap.size < w'.heap.size := by
      rcases hown.2 with ⟨h, _⟩ | ⟨g, c, cur, h, hg, hh, _⟩
      · simp at h
      · obtain ⟨hgl, _⟩ := Array.getElem?_eq_some_iff.1 hh
        omega
    refine ⟨_, len, rfl, ⟨Nat.le_refl _, by omega, hs.num, (fun h => by cases h), fun k hk => ⟨w.heap.size, 0, rfl, hsz, ?_⟩, hs.short⟩, rfl, hb⟩
    rw [Nat.zero_add, hown.cellAt k (by omega)]
    exact hxs k hk


/-- A Health as ZZnewHealth lays it. -/
theorem new15 (s0 s1 s3 s4 : ByteArray) (a : Option Addr) (len cap : Nat) (t5 t6 : Int) (w : World) :
    Calls Try.prog 15 #[.string s0, .string s1, .slice a len cap, .string s3, .string s4, .int .i64 t5, .int .i64 t6] w fun e w' => e = .returned (.pointer (some ⟨w.heap.size, 0, none⟩)) ∧
      w' = w.alloc (.cells #[.string s0, .string s1, .slice a len cap, .string s3, .string s4, .int .i64 t5, .int .i64 t6, .slice none 0 0, .map none, .slice none 0 0, .pointer none, .int .i32 0, .int .u32 0, .pointer none, .chan none, .pointer none, .bool false] 51) := by
  go_enter Try.func15, Try.ntmps15
  go_wp2
  go_ret
  exact ⟨rfl, rfl⟩

theorem equalIn_chan (w : World) (d : Nat) (a b : Option Nat) : (Op.equalIn (d + 1) 31 (.chan a) (.chan b)).run Try.prog w = .ok (a == b) w := by
  simp [Op.equalIn, run_underlying Try.underlying31]
theorem eql_chan (w : World) (a b : Option Nat) : (binOp .eql 31 (.chan a) (.chan b)).run Try.prog w = .ok (.bool (a == b)) w := by
  simp only [binOp]
  simp [Op.equal, Op.maxDepth, equalIn_chan w 9999 a b]
theorem neq_chan (w : World) (a b : Option Nat) : (binOp .neq 31 (.chan a) (.chan b)).run Try.prog w = .ok (.bool (!(a == b))) w := by
  simp only [binOp]
  simp [Op.equal, Op.maxDepth, equalIn_chan w 9999 a b]
theorem makeChan (w : World) : (Instr.makeChan 31 (.int .i64 0)).run Try.prog w = .ok (.chan (some w.heap.size)) (w.alloc (.chan 0 #[] false 0 0 false)) := by
  have h : (Try.prog.info? 41).map (·.bytes) = some 0 := by kernel_rfl
  obtain ⟨i, hi, hb⟩ := Option.map_eq_some_iff.1 h
  simpa using Go.Conc.run_makeChan (P := Try.prog) (w := w) Try.underlying31 hi .i64 0 (by omega) (by rw [hb]; omega)

theorem first31_nil (g : Nat) (w : World) (hg : g < w.heap.size) (hc : w.cell? ⟨g, 14, none⟩ = some (.chan none)) (hf : w.frozen? ⟨g, 14, none⟩ = false) :
    Calls Try.prog 31 #[.pointer (some ⟨g, 0, none⟩)] w fun e w' => e = .returned (.chan (some w.heap.size)) ∧ w' = (w.setCell ⟨g, 14, none⟩ (.chan (some w.heap.size))).alloc (.chan 0 #[] false 0 0 false) := by
  have h1 := eql_chan
  have h2 := makeChan
  have hb : Below w.heap.size w (w.alloc (.chan 0 #[] false 0 0 false)) := (Below.refl _ w).alloc (Nat.le_refl _) _
  have hc' := (hb.cell (p := ⟨g, 14, none⟩) hg).trans hc
  have hf' := (hb.frozen (p := ⟨g, 14, none⟩) hg).trans hf
  clear hb
  go_enter Try.func31, Try.ntmps31
  go_wp2
  go_ret
  exact ⟨rfl, rfl⟩
theorem first31_has (g c : Nat) (w : World) (hc : w.cell? ⟨g, 14, none⟩ = some (.chan (some c))) :
    Calls Try.prog 31 #[.pointer (some ⟨g, 0, none⟩)] w fun e w' => e = .returned (.chan (some c)) ∧ w' = w := by
  have h1 := eql_chan
  go_enter Try.func31, Try.ntmps31
  go_wp2
  go_ret
  exact ⟨rfl, rfl⟩
theorem first16_nil (g : Nat) (w : World) (hg : g < w.heap.size) (hc : w.cell? ⟨g, 14, none⟩ = some (.chan none)) (hf : w.frozen? ⟨g, 14, none⟩ = false) :
    Calls Try.prog 16 #[.pointer (some ⟨g, 0, none⟩)] w fun e w' => e = .returned (.chan (some w.heap.size)) ∧ w' = (w.setCell ⟨g, 14, none⟩ (.chan (some w.heap.size))).alloc (.chan 0 #[] false 0 0 false) := by
  go_enter Try.func16, Try.ntmps16
  go_wp2_with (go_at_call 31; refine (first31_nil g _ hg hc hf).mono ?_; rintro e w' ⟨rfl, rfl⟩)
  go_ret
  exact ⟨rfl, rfl⟩
theorem first16_has (g c : Nat) (w : World) (hc : w.cell? ⟨g, 14, none⟩ = some (.chan (some c))) :
    Calls Try.prog 16 #[.pointer (some ⟨g, 0, none⟩)] w fun e w' => e = .returned (.chan (some c)) ∧ w' = w := by
  go_enter Try.func16, Try.ntmps16
  go_wp2_with (go_at_call 31; refine (first31_has g c _ hc).mono ?_; rintro e w' ⟨rfl, rfl⟩)
  go_ret
  exact ⟨rfl, rfl⟩
theorem ran17 (g : Nat) (v : Value) (w : World) (hc : w.cell? ⟨g, 14, none⟩ = some v) :
    Calls Try.prog 17 #[.pointer (some ⟨g, 0, none⟩)] w fun e w' => e = .returned v ∧ w' = w := by
  go_enter Try.func17, Try.ntmps17
  go_wp2
  go_ret
  exact ⟨rfl, rfl⟩

/-- What firstRun has done to the world at a Health in block g that had no channel yet. -/
structure Ran (g : Nat) (w w' : World) : Prop where
  size : w'.heap.size = w.heap.size + 1
  here : w'.cell? ⟨g, 14, none⟩ = some (.chan (some w.heap.size))
  other : ∀ b o, b < w.heap.size → ¬ (b = g ∧ o = 14) → w'.cell? ⟨b, o, none⟩ = w.cell? ⟨b, o, none⟩
  frozen : ∀ b o, b < w.heap.size → w'.frozen? ⟨b, o, none⟩ = w.frozen? ⟨b, o, none⟩
  below : ∀ B, B ≤ g → Below B w w'
  chan : w'.heap[w.heap.size]? = some (.chan 0 #[] false 0 0 false)

theorem ran_of (g : Nat) (w : World) (hg : g < w.heap.size) (hc : w.cell? ⟨g, 14, none⟩ = some (.chan none)) :
    Ran g w ((w.setCell ⟨g, 14, none⟩ (.chan (some w.heap.size))).alloc (.chan 0 #[] false 0 0 false)) := by
  have hz : (w.setCell ⟨g, 14, none⟩ (.chan (some w.heap.size))).heap.size = w.heap.size := by simp [World.setCell]
  refine ⟨?_, ?_, ?_, ?_, ?_, ?_⟩
  · simp
  · rw [World.cell?_alloc_lt _ _ _ (by rw [hz]; exact hg)]
    exact World.cell?_setCell_same _ _ _ hc
  · intro b o hb hn
    rw [World.cell?_alloc_lt _ _ _ (by rw [hz]; exact hb)]
    exact World.cell?_setCell_other _ _ _ _ (by intro e; simp at e; exact hn ⟨e.1.symm, e.2.symm⟩)
  · intro b o hb
    rw [World.frozen?_alloc_old _ _ _ (by rw [hz]; exact Nat.ne_of_lt hb)]
    exact World.frozen?_setCell _ _ _ _
  · intro B hB
    exact ((Below.refl _ _).setCell (p := ⟨g, 14, none⟩) hB _).alloc (by rw [hz]; omega) _
  · have := heap_alloc_new (w.setCell ⟨g, 14, none⟩ (.chan (some w.heap.size))) (.chan 0 #[] false 0 0 false)
    rw [hz] at this
    exact this

theorem first16 (g : Nat) (w : World) (hg : g < w.heap.size) (hc : w.cell? ⟨g, 14, none⟩ = some (.chan none)) (hf : w.frozen? ⟨g, 14, none⟩ = false) :
    Calls Try.prog 16 #[.pointer (some ⟨g, 0, none⟩)] w fun e w' => e = .returned (.chan (some w.heap.size)) ∧ Ran g w w' := by
  refine (first16_nil g w hg hc hf).mono ?_
  rintro e w' ⟨rfl, rfl⟩
  exact ⟨rfl, ran_of g w hg hc⟩

theorem strs_nil (W : World) : Strs W none 0 0 [] := ⟨Nat.le_refl _, by omega, rfl, fun _ => ⟨rfl, rfl⟩, fun k hk => absurd hk (Nat.not_lt_zero _), fun s hs => by cases hs⟩
theorem strs_of {W : World} {x : Addr} {l c : Nat} {ss : List ByteArray} (hl : l ≤ c) (hr : c * 16 ≤ 140737488351232) (hz : ss.length = c) (hcell : ∀ i, i < ss.length → W.cell? (x.add i) = some (.string (ss.getD i ByteArray.empty)))
    (hws : ∀ s ∈ ss, s.size ≤ maxLen) (hlt : ∀ b off, x = ⟨b, off, none⟩ → ∀ k, k < l → b < W.heap.size) : Strs W (some x) l c (ss.take l) := by
  refine ⟨hl, hr, by rw [List.length_take]; omega, (fun h => by cases h), fun k hk => ?_, fun s hs => hws s (List.mem_of_mem_take hs)⟩
  obtain ⟨b, off, spot⟩ := x
  have hspot : spot = none := by simpa [Addr.add] using World.cell?_spot (hcell 0 (by omega))
  subst hspot
  refine ⟨b, off, rfl, hlt b off rfl k hk, ?_⟩
  have := hcell k (by omega)
  rw [List.getElem?_take, if_pos hk, ← add_plain, this]
  simp
end Go.Proofs.Qxb6615667a.Notes
