import Derived.Test.Qxb6615748aWaitsB
import Derived.ChangeOld
import Derived.Below
namespace Go.Proofs.Qxb6615748a.fnAnswerStatusTakesCodeAndWait
open Go.ChangeShapes Go.WideShapes Go.ChangeAt Go.RowKit Waits
set_option linter.unusedVariables false
theorem own : ownKnob Try.prog.godebug = none := by kernel_rfl

set_option maxRecDepth 100000 in
theorem as13_hit (g : Nat) (p : Value) (w : World) : Calls Try.prog 13 #[.iface 36 (.pointer (some ⟨g, 0, none⟩)), p] w fun e w' => e = .returned (.tuple #[.pointer (some ⟨g, 0, none⟩), .bool true]) ∧ w' = w := by
  have h1 : ∀ w : World, (Instr.typeAssert (.iface 36 (.pointer (some ⟨g, 0, none⟩))) 24 36 true).run Try.prog w = .ok (.tuple #[.pointer (some ⟨g, 0, none⟩), .bool true]) w := fun w => by kernel_rfl
  go_enter Try.func13, Try.ntmps13
  go_wp2
  refine wp_loop_rounds 1 ?_
  rw [rounds_succ]
  go_wp2
  go_ret2
  exact ⟨rfl, rfl⟩
set_option maxRecDepth 100000 in
theorem as11_hit (g : Nat) (w : World) : Calls Try.prog 11 #[.iface 36 (.pointer (some ⟨g, 0, none⟩))] w fun e w' => e = .returned (.tuple #[.pointer (some ⟨g, 0, none⟩), .bool true]) ∧ Below w.heap.size w w' := by
  go_enter Try.func11, Try.ntmps11
  go_wp2_with (go_at_call 13; refine (as13_hit g _ _).mono ?_; rintro e w' ⟨rfl, rfl⟩)
  go_ret2
  exact ⟨rfl, (Below.refl _ _).alloc (Nat.le_refl _) _⟩
/-- What answerStatus has done at the Failure in block f: its status code is c now; nothing else below has turned. -/
structure Took (f : Nat) (c : Int) (w w' : World) : Prop where
  size : w.heap.size ≤ w'.heap.size
  here : w'.cell? ⟨f, 1, none⟩ = some (.int .i64 c)
  other : ∀ b o, b < w.heap.size → ¬ (b = f ∧ o = 1) → w'.cell? ⟨b, o, none⟩ = w.cell? ⟨b, o, none⟩
  below : ∀ B, B ≤ f → Below B w w'
set_option maxRecDepth 100000 in
theorem ans9 (f g : Nat) (c s : Int) (w : World) (hf : f < w.heap.size) (hg : g < w.heap.size) (c0 : w.cell? ⟨f, 0, none⟩ = some (.iface 36 (.pointer (some ⟨g, 0, none⟩)))) (c1 : w.cell? ⟨f, 1, none⟩ = some (.int .i64 s)) (cf : w.frozen? ⟨f, 1, none⟩ = false) (cg : w.cell? ⟨g, 0, none⟩ = some (.int .i64 c)) :
    Calls Try.prog 9 #[.pointer (some ⟨f, 0, none⟩)] w fun e w' => e = .returned (.tuple #[]) ∧ Took f c w w' := by
  go_enter Try.func9, Try.ntmps9
  go_wp2_with fail
  refine (as11_hit g w).mono ?_
  rintro e w1 ⟨rfl, hb⟩
  have d1 := (hb.cell (p := ⟨f, 1, none⟩) hf).trans c1
  have df := (hb.frozen (p := ⟨f, 1, none⟩) hf).trans cf
  have dg := (hb.cell (p := ⟨g, 0, none⟩) hg).trans cg
  have T : Took f c w (w1.setCell ⟨f, 1, none⟩ (.int .i64 c)) := by
    refine ⟨?_, World.cell?_setCell_same _ _ _ d1, ?_, ?_⟩
    · have := hb.size; simpa [World.setCell] using this
    · intro b o hb' hn
      rw [World.cell?_setCell_other _ _ _ _ (by intro e; simp at e; exact hn ⟨e.1.symm, e.2.symm⟩)]
      exact hb.cell (p := ⟨b, o, none⟩) hb'
    · intro B hB
      exact (hb.mono (by omega)).setCell (p := ⟨f, 1, none⟩) hB _
  have HT : Hid (Took f c w (w1.setCell ⟨f, 1, none⟩ (.int .i64 c))) := T
  clear T hb c0 c1 cf cg
  go_wp2
  go_end0
  exact ⟨rfl, HT.out⟩
theorem zz6 (f : Nat) (c : Int) (w : World) (h : Calls Try.prog 9 #[.pointer (some ⟨f, 0, none⟩)] w fun e w' => e = .returned (.tuple #[]) ∧ Took f c w w') : Calls Try.prog 6 #[.pointer (some ⟨f, 0, none⟩)] w fun e w' => e = .returned (.tuple #[]) ∧ Took f c w w' := by
  have H : Hid (Calls Try.prog 9 #[.pointer (some ⟨f, 0, none⟩)] w fun e w' => e = .returned (.tuple #[]) ∧ Took f c w w') := h
  clear h
  go_enter Try.func6, Try.ntmps6
  go_wp2_with (go_at_call 9; refine H.out.mono ?_; rintro e w' ⟨rfl, hb⟩)
  go_end0
  exact ⟨rfl, hb⟩

set_option maxRecDepth 100000 in
theorem walk (a0 : Int) (a1 : Int) (a2 : Int) (a3 : Int) (w0 : (Lit.int .i64 a0).wf = true) (w1 : (Lit.int .i64 a1).wf = true) (w2 : (Lit.int .i64 a2).wf = true) (w3 : (Lit.int .i64 a3).wf = true) (w : World) :
    Calls Try.prog 3 #[.int .i64 a0, .int .i64 a1, .int .i64 a2, .int .i64 a3] w fun e w' => e = .returned (.bool true) ∧ Below w.heap.size w w' := by
  clear w0 w1 w2 w3
  go_enter Try.func3, Try.ntmps3
  go_wp2_with fail
  refine (new5 a0 a1 w).mono ?_
  rintro e w1 ⟨rfl, hw1⟩
  have hb1 : Below w.heap.size w w1 := by rw [hw1]; exact (Below.refl _ _).alloc (Nat.le_refl _) _
  have hc1 : w1.cell? ⟨w.heap.size, 1, none⟩ = some (.int .i64 a1) := by rw [hw1]; simp
  have hd1 : w1.cell? ⟨w.heap.size, 0, none⟩ = some (.int .i64 a0) := by rw [hw1]; simp
  have hz1 : w.heap.size < w1.heap.size := by rw [hw1]; simp
  clear hw1
  generalize hB : w.heap.size = B at *
  have HB : Hid (w.heap.size = B) := hB
  clear hB
  obtain ⟨w2, hw2⟩ : ∃ w2, w2 = w1.alloc (.cells #[.iface 36 (.pointer (some ⟨B, 0, none⟩)), .int .i64 a2, .int .i64 a3] 27) := ⟨_, rfl⟩
  have hb2 : Below w1.heap.size w1 w2 := by rw [hw2]; exact (Below.refl _ _).alloc (Nat.le_refl _) _
  have hc2 : w2.cell? ⟨B, 1, none⟩ = some (.int .i64 a1) := (hb2.cell (p := ⟨B, 1, none⟩) hz1).trans hc1
  have hd2 : w2.cell? ⟨B, 0, none⟩ = some (.int .i64 a0) := (hb2.cell (p := ⟨B, 0, none⟩) hz1).trans hd1
  have q0 : w2.cell? ⟨w1.heap.size, 0, none⟩ = some (.iface 36 (.pointer (some ⟨B, 0, none⟩))) := by rw [hw2]; simp
  have q1 : w2.cell? ⟨w1.heap.size, 1, none⟩ = some (.int .i64 a2) := by rw [hw2]; simp
  have q2 : w2.cell? ⟨w1.heap.size, 2, none⟩ = some (.int .i64 a3) := by rw [hw2]; simp
  have qf : w2.frozen? ⟨w1.heap.size, 1, none⟩ = false := by rw [hw2]; simp
  have hz2 : w1.heap.size < w2.heap.size := by rw [hw2]; simp
  have hB2 : Below B w w2 := hb1.trans (hb2.mono (by omega))
  have HW : Hid (w2 = w1.alloc (.cells #[.iface 36 (.pointer (some ⟨B, 0, none⟩)), .int .i64 a2, .int .i64 a3] 27)) := hw2
  clear hw2 hc1 hd1 hb1 hb2
  go_wp2_with fail
  rw [← HW.out]
  clear HW
  generalize w1.heap.size = f at *
  refine (zz6 f a0 w2 (ans9 f B a0 a2 w2 hz2 (by omega) q0 q1 qf hd2)).mono ?_
  rintro e w3 ⟨rfl, T⟩
  have p0 := (T.other f 0 hz2 (by omega)).trans q0
  have p1 := T.here
  have p2 := (T.other f 2 hz2 (by omega)).trans q2
  have hc3 := (T.other B 1 (by omega) (by omega)).trans hc2
  have hB3 : Below B w w3 := hB2.trans (T.below B (by omega))
  have hz3 : B < w3.heap.size := by have := T.size; omega
  clear T q0 q1 q2 qf hd2 hc2 hB2
  go_wp2_with fail
  refine (zz7 _ a1 w3 (ask10_hit B a1 w3 hz3 hc3)).mono ?_
  rintro e w4 ⟨rfl, hb4⟩
  have hB4 : Below B w w4 := hB3.trans (hb4.mono (by omega))
  clear hb4 hB3
  go_wp2
  go_ret
  exact ⟨rfl, by rw [HB.out]; exact hB4⟩

/-! ### THE ROW's STEP -/
set_option maxRecDepth 100000 in
theorem lifted (os : Os) (started : os.Started) (H : Type) (enc : TypeId × Value → H) :
    ReturnsInHanded {} Try.checked os 3 .any (Rows.fnAnswerStatusTakesCodeAndWaitSpec.pre6 enc Try.prog Try.f3 Rows.fnAnswerStatusTakesCodeAndWaitRow.domain false) (Rows.fnAnswerStatusTakesCodeAndWaitSpec.post enc Try.prog Try.f3 false true false false) := by
  refine returnsInHanded_of_change (C := Try.checked) own started (by kernel_rfl) Try.func3
    (ChangeSpec.witness6 (enc := enc) (C := Try.checked) false ⟨#[], #[.int .i64 0, .int .i64 0, .int .i64 0, .int .i64 0], []⟩ 8 (by kernel_rfl) (by kernel_rfl) (by kernel_rfl) (by kernel_rfl)) ?_
  intro W base args ds gs before hval0 hW hcnd _
  have hval : ∀ (j : Nat) t v, Try.f3.params[j]? = some t → args[j]? = some v → Value.okWide Try.prog W .any base t v := hval0
  have hW' := hW
  obtain ⟨p, q, hA0, hV, rfl, hfz, hnd⟩ := hW
  have hA : DataW.TrodAll enc Try.prog W 0 (fun _ => true) true Try.f3.params.toList args.toList ds p := hA0
  rw [Try.params3] at hA hval
  obtain ⟨v0, vs0, d0, ds0, p0, q0, hargs, rfl, rfl, h0, r0⟩ := trodAll_cons hA
  obtain ⟨v1, vs1, d1, ds1, p1, q1, rfl, rfl, rfl, h1, r1⟩ := trodAll_cons r0
  obtain ⟨v2, vs2, d2, ds2, p2, q2, rfl, rfl, rfl, h2, r2⟩ := trodAll_cons r1
  obtain ⟨v3, vs3, d3, ds3, p3, q3, rfl, rfl, rfl, h3, r3⟩ := trodAll_cons r2
  obtain ⟨rfl, rfl, rfl⟩ := trodAll_nil r3
  obtain rfl : args = #[v0, v1, v2, v3] := by cases args; simp_all
  obtain ⟨rfl, rfl⟩ := trodVars_none hV
  obtain ⟨a0, rfl, rfl, rfl, w0⟩ := open_int Try.underlying3 (hval 0 3 v0 rfl rfl) h0
  obtain ⟨a1, rfl, rfl, rfl, w1⟩ := open_int Try.underlying2 (hval 1 2 v1 rfl rfl) h1
  obtain ⟨a2, rfl, rfl, rfl, w2⟩ := open_int Try.underlying3 (hval 2 3 v2 rfl rfl) h2
  obtain ⟨a3, rfl, rfl, rfl, w3⟩ := open_int Try.underlying3 (hval 3 3 v3 rfl rfl) h3
  clear hA0 hval0
  refine (walk a0 a1 a2 a3 w0 w1 w2 w3 W).mono fun e W' ⟨he, bel⟩ => ?_
  subst he
  exact ⟨_, rfl, _, _, _, [], _, [], hW', trodAll_mk1 (shut_bool Try.underlying4 _), (trodAll_cons_mk (shut_int Try.underlying3 w0) (trodAll_cons_mk (shut_int Try.underlying2 w1) (trodAll_cons_mk (shut_int Try.underlying3 w2) (trodAll_cons_mk (shut_int Try.underlying3 w3) trodAll_mk0)))), rfl, bel.frame _, fun h => by cases h⟩

theorem over : Rows.fnAnswerStatusTakesCodeAndWaitRow.holds Try.pinned (OpenSpec.ofChange Rows.fnAnswerStatusTakesCodeAndWaitSpec) :=
  OpenClaim.holds_of_wide 3 Try.f3 rfl rfl rfl rfl rfl rfl rfl ⟨rfl, rfl, rfl, rfl, rfl⟩ rfl rfl rfl rfl rfl (by kernel_rfl) Try.func3 (by kernel_rfl)
    (of_decide_eq_true (by kernel_rfl)) (by unfold Func.isWrapper; first | (rw [if_pos (by decide +kernel)]; kernel_rfl) | (rw [if_neg (by decide +kernel)]; exact ⟨rfl, rfl⟩))
    (fun os started H enc _ => lifted os started H enc)

/-- ████ THE STATEMENT ████ -/
theorem proved : Rows.FnAnswerStatusTakesCodeAndWaitSaid :=
  over
end Go.Proofs.Qxb6615748a.fnAnswerStatusTakesCodeAndWait
