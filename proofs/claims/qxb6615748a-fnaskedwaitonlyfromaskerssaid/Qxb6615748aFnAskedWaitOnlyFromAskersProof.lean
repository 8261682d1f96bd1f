import Derived.Test.Qxb6615748aWaitsB
import Derived.ChangeOld
import Derived.Below
namespace Go.Proofs.Qxb6615748a.fnAskedWaitOnlyFromAskers
open Go.ChangeShapes Go.WideShapes Go.ChangeAt Go.RowKit Waits
set_option linter.unusedVariables false
theorem own : ownKnob Try.prog.godebug = none := by kernel_rfl

set_option maxRecDepth 100000 in
theorem walk (a0 : Int) (a1 : Int) (a2 : Int) (w0 : (Lit.int .i64 a0).wf = true) (w1 : (Lit.int .i64 a1).wf = true) (w2 : (Lit.int .i64 a2).wf = true) (w : World) :
    Calls Try.prog 4 #[.int .i64 a0, .int .i64 a1, .int .i64 a2] w fun e w' => e = .returned (.bool true) ∧ Below w.heap.size w w' := by
  clear w0 w1 w2
  go_enter Try.func4, Try.ntmps4
  go_wp2_with fail
  refine (new5 a0 a1 w).mono ?_
  rintro e w1 ⟨rfl, hw1⟩
  have hb1 : Below w.heap.size w w1 := by rw [hw1]; exact (Below.refl _ _).alloc (Nat.le_refl _) _
  have hc1 : w1.cell? ⟨w.heap.size, 1, none⟩ = some (.int .i64 a1) := by rw [hw1]; simp
  have hz1 : w.heap.size < w1.heap.size := by rw [hw1]; simp
  clear hw1
  have hz : w.heap.size ≤ w1.heap.size := hb1.size
  generalize hB : w.heap.size = B at *
  have HB : Hid (w.heap.size = B) := hB
  clear hB
  obtain ⟨w2, hw2⟩ : ∃ w2, w2 = w1.alloc (.cells #[.int .i64 a2, .nilIface, .nilIface] 33) := ⟨_, rfl⟩
  have hb2 : Below w1.heap.size w1 w2 := by rw [hw2]; exact (Below.refl _ _).alloc (Nat.le_refl _) _
  have hc2 : w2.cell? ⟨B, 1, none⟩ = some (.int .i64 a1) := (hb2.cell (p := ⟨B, 1, none⟩) hz1).trans hc1
  have hd2 : w2.cell? ⟨w1.heap.size, 1, none⟩ = some .nilIface := by rw [hw2]; simp
  have he2 : w2.cell? ⟨w1.heap.size, 2, none⟩ = some .nilIface := by rw [hw2]; simp
  have hz2 : w1.heap.size < w2.heap.size := by rw [hw2]; simp
  have hB2 : Below B w w2 := hb1.trans (hb2.mono hz)
  have HW : Hid (w2 = w1.alloc (.cells #[.int .i64 a2, .nilIface, .nilIface] 33)) := hw2
  clear hw2 hc1 hb1 hb2
  go_wp2_with fail
  rw [← HW.out]
  clear HW
  generalize w1.heap.size = g at *
  refine (zz7 _ a1 w2 (ask10_hit B a1 w2 (by omega) hc2)).mono ?_
  rintro e w3 ⟨rfl, hb3⟩
  have hd3 := (hb3.cell (p := ⟨g, 1, none⟩) hz2).trans hd2
  have he3 := (hb3.cell (p := ⟨g, 2, none⟩) hz2).trans he2
  have hz3 : g < w3.heap.size := Nat.lt_of_lt_of_le hz2 hb3.size
  have hB3 : Below B w w3 := hB2.trans (hb3.mono (by omega))
  clear hb3 hd2 he2 hB2 hc2
  go_wp2_with fail
  refine (zz7 _ 0 w3 (ask10_stop g w3 hz3 hd3 he3)).mono ?_
  rintro e w4 ⟨rfl, hb4⟩
  have hd4 := (hb4.cell (p := ⟨g, 1, none⟩) hz3).trans hd3
  have he4 := (hb4.cell (p := ⟨g, 2, none⟩) hz3).trans he3
  have hz4 : g < w4.heap.size := Nat.lt_of_lt_of_le hz3 hb4.size
  have hB4 : Below B w w4 := hB3.trans (hb4.mono (by omega))
  clear hb4 hd3 he3 hB3
  go_wp2_with fail
  refine (zz7 _ 0 w4 (ask10_nil w4)).mono ?_
  rintro e w5 ⟨rfl, hb5⟩
  have hd5 := (hb5.cell (p := ⟨g, 1, none⟩) hz4).trans hd4
  have he5 := (hb5.cell (p := ⟨g, 2, none⟩) hz4).trans he4
  have hz5 : g < w5.heap.size := Nat.lt_of_lt_of_le hz4 hb5.size
  have hB5 : Below B w w5 := hB4.trans (hb5.mono (by omega))
  clear hb5 hd4 he4 hB4
  go_wp2_with fail
  refine (perm8 _ 31 w5).mono ?_
  rintro e w6 ⟨rfl, hw6⟩
  have hb6 : Below w5.heap.size w5 w6 := by rw [hw6]; exact (Below.refl _ _).alloc (Nat.le_refl _) _
  have hd6 := (hb6.cell (p := ⟨g, 1, none⟩) hz5).trans hd5
  have he6 := (hb6.cell (p := ⟨g, 2, none⟩) hz5).trans he5
  have hf6 : w6.cell? ⟨w5.heap.size, 0, none⟩ = some (.iface 31 (.pointer (some ⟨g, 0, none⟩))) := by rw [hw6]; simp
  have hz6 : w5.heap.size < w6.heap.size := by rw [hw6]; simp
  have hB6 : Below B w w6 := hB5.trans (hb6.mono (by omega))
  clear hb6 hw6 hd5 he5 hB5
  generalize w5.heap.size = m at *
  go_wp2_with fail
  refine (zz7 _ 0 w6 (ask10_mark m g w6 hz6 (by omega) hf6 hd6 he6)).mono ?_
  rintro e w7 ⟨rfl, hb7⟩
  have hB7 : Below B w w7 := hB6.trans (hb7.mono (by omega))
  clear hb7 hB6 hd6 he6 hf6
  go_wp2
  go_ret
  exact ⟨rfl, by rw [HB.out]; exact hB7⟩

/-! ### THE ROW's STEP -/
set_option maxRecDepth 100000 in
theorem lifted (os : Os) (started : os.Started) (H : Type) (enc : TypeId × Value → H) :
    ReturnsInHanded {} Try.checked os 4 .any (Rows.fnAskedWaitOnlyFromAskersSpec.pre6 enc Try.prog Try.f4 Rows.fnAskedWaitOnlyFromAskersRow.domain false) (Rows.fnAskedWaitOnlyFromAskersSpec.post enc Try.prog Try.f4 false true false false) := by
  refine returnsInHanded_of_change (C := Try.checked) own started (by kernel_rfl) Try.func4
    (ChangeSpec.witness6 (enc := enc) (C := Try.checked) false ⟨#[], #[.int .i64 0, .int .i64 0, .int .i64 0], []⟩ 8 (by kernel_rfl) (by kernel_rfl) (by kernel_rfl) (by kernel_rfl)) ?_
  intro W base args ds gs before hval0 hW hcnd _
  have hval : ∀ (j : Nat) t v, Try.f4.params[j]? = some t → args[j]? = some v → Value.okWide Try.prog W .any base t v := hval0
  have hW' := hW
  obtain ⟨p, q, hA0, hV, rfl, hfz, hnd⟩ := hW
  have hA : DataW.TrodAll enc Try.prog W 0 (fun _ => true) true Try.f4.params.toList args.toList ds p := hA0
  rw [Try.params4] at hA hval
  obtain ⟨v0, vs0, d0, ds0, p0, q0, hargs, rfl, rfl, h0, r0⟩ := trodAll_cons hA
  obtain ⟨v1, vs1, d1, ds1, p1, q1, rfl, rfl, rfl, h1, r1⟩ := trodAll_cons r0
  obtain ⟨v2, vs2, d2, ds2, p2, q2, rfl, rfl, rfl, h2, r2⟩ := trodAll_cons r1
  obtain ⟨rfl, rfl, rfl⟩ := trodAll_nil r2
  obtain rfl : args = #[v0, v1, v2] := by cases args; simp_all
  obtain ⟨rfl, rfl⟩ := trodVars_none hV
  obtain ⟨a0, rfl, rfl, rfl, w0⟩ := open_int Try.underlying3 (hval 0 3 v0 rfl rfl) h0
  obtain ⟨a1, rfl, rfl, rfl, w1⟩ := open_int Try.underlying2 (hval 1 2 v1 rfl rfl) h1
  obtain ⟨a2, rfl, rfl, rfl, w2⟩ := open_int Try.underlying3 (hval 2 3 v2 rfl rfl) h2
  clear hA0 hval0
  refine (walk a0 a1 a2 w0 w1 w2 W).mono fun e W' ⟨he, bel⟩ => ?_
  subst he
  exact ⟨_, rfl, _, _, _, [], _, [], hW', trodAll_mk1 (shut_bool Try.underlying4 _), (trodAll_cons_mk (shut_int Try.underlying3 w0) (trodAll_cons_mk (shut_int Try.underlying2 w1) (trodAll_cons_mk (shut_int Try.underlying3 w2) trodAll_mk0))), rfl, bel.frame _, fun h => by cases h⟩

theorem over : Rows.fnAskedWaitOnlyFromAskersRow.holds Try.pinned (OpenSpec.ofChange Rows.fnAskedWaitOnlyFromAskersSpec) :=
  OpenClaim.holds_of_wide 4 Try.f4 rfl rfl rfl rfl rfl rfl rfl ⟨rfl, rfl, rfl, rfl, rfl⟩ rfl rfl rfl rfl rfl (by kernel_rfl) Try.func4 (by kernel_rfl)
    (of_decide_eq_true (by kernel_rfl)) (by unfold Func.isWrapper; first | (rw [if_pos (by decide +kernel)]; kernel_rfl) | (rw [if_neg (by decide +kernel)]; exact ⟨rfl, rfl⟩))
    (fun os started H enc _ => lifted os started H enc)

/-- ████ THE STATEMENT ████ -/
theorem proved : Rows.FnAskedWaitOnlyFromAskersSaid :=
  over
end Go.Proofs.Qxb6615748a.fnAskedWaitOnlyFromAskers
