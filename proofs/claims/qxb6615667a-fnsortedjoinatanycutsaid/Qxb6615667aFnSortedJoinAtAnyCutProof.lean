import Derived.Test.Qxb6615667aSortLaw8
import Derived.Test.Qxb6615667aSortOpen
import Derived.SizedLaws
import Derived.ChangeOld
import Derived.Below
namespace Go.Proofs.Qxb6615667a.fnSortedJoinAtAnyCut
open Go.ChangeShapes Go.WideShapes Go.ChangeAt Go.RowKit
set_option linter.unusedVariables false

theorem own : ownKnob Try.prog.godebug = none := by kernel_rfl
theorem laidOut : laidOutB Try.prog = true := by kernel_rfl

/-! ### THE ROW's STEP -/
set_option maxRecDepth 100000 in
theorem lifted (os : Os) (started : os.Started) (H : Type) (enc : TypeId × Value → H) :
    ReturnsInHanded {} Try.checked os 8 .any (Rows.fnSortedJoinAtAnyCutSpec.pre6 enc Try.prog Try.f8 Rows.fnSortedJoinAtAnyCutRow.domain false) (Rows.fnSortedJoinAtAnyCutSpec.post enc Try.prog Try.f8 false true false false) := by
  refine returnsInHanded_of_change_sized (C := Try.checked) own started (by kernel_rfl) Try.func8
    (ChangeSpec.witness6 (enc := enc) (C := Try.checked) false ⟨#[], #[.slice none 0 0, .slice none 0 0], []⟩ 8 (by kernel_rfl) (by kernel_rfl) (by kernel_rfl) (by kernel_rfl)) ?_
  intro W base args ds gs before hval0 hW _ hsz0 _
  have hsz : (DataW.weightsEach Try.prog (Try.f8.params.toList ++ Rows.fnSortedJoinAtAnyCutSpec.plain.varTypes Try.prog) (ds ++ gs)).all (· ≤ reachBytes) = true := hsz0
  clear hsz0
  have hval : ∀ (j : Nat) t v, Try.f8.params[j]? = some t → args[j]? = some v → Value.okWide Try.prog W .any base t v := hval0
  have hW' := hW
  obtain ⟨p, q, hA0, hV, rfl, hfz, hnd⟩ := hW
  have hA : DataW.TrodAll enc Try.prog W 0 (fun _ => true) true Try.f8.params.toList args.toList ds p := hA0
  rw [Try.params8] at hA hval hsz
  obtain ⟨v0, vs0, d0, ds0, p0, q0, hargs, rfl, rfl, h0, r0⟩ := trodAll_cons hA
  obtain ⟨v1, vs1, d1, ds1, p1, q1, rfl, rfl, rfl, h1, r1⟩ := trodAll_cons r0
  obtain ⟨rfl, rfl, rfl⟩ := trodAll_nil r1
  obtain rfl : args = #[v0, v1] := by cases args; simp_all
  obtain ⟨rfl, rfl⟩ := trodVars_none hV
  obtain ⟨a0, len0, cap0, rfl⟩ := okWide_slice Try.underlying53 (hval 0 53 v0 rfl rfl)
  obtain ⟨a1, len1, cap1, rfl⟩ := okWide_slice Try.underlying53 (hval 1 53 v1 rfl rfl)
  have k0 := h0
  have k1 := h1
  have lt0 : ∀ x ∈ p0, x.block < W.heap.size := by obtain ⟨m, hm⟩ := k0; exact DataW.trod_lt m _ _ _ hm
  have lt1 : ∀ x ∈ p1, x.block < W.heap.size := by obtain ⟨m, hm⟩ := k1; exact DataW.trod_lt m _ _ _ hm
  obtain ⟨da, hs⟩ : ∃ d, Srt.Finds W a0 len0 cap0 d := by
    obtain ⟨fuel, hf⟩ := h0
    refine Srt.finds_open hf (fun elems spare he => ?_)
    subst he
    have := sized_slice hsz (j := 0) (t := 53) (e := 61) rfl rfl Try.underlying53
    rw [Srt.bytes61] at this
    simpa [reachBytes] using this
  obtain ⟨db, ht⟩ : ∃ d, Srt.Finds W a1 len1 cap1 d := by
    obtain ⟨fuel, hf⟩ := h1
    refine Srt.finds_open hf (fun elems spare he => ?_)
    subst he
    have := sized_slice hsz (j := 1) (t := 53) (e := 61) rfl rfl Try.underlying53
    rw [Srt.bytes61] at this
    simpa [reachBytes] using this
  clear hA0 hval0
  refine (Srt.walk8 a0 a1 len0 cap0 len1 cap1 da db W hs ht).mono fun e W' ⟨he, bel⟩ => ?_
  subst he
  exact ⟨_, rfl, _, _, _, [], _, [], hW', trodAll_mk1 (shut_bool Try.underlying4 _), (trodAll_cons_mk (Below.trod laidOut (by kernel_rfl) (of_decide_eq_true (by kernel_rfl)) k0 bel lt0) (trodAll_cons_mk (Below.trod laidOut (by kernel_rfl) (of_decide_eq_true (by kernel_rfl)) k1 bel lt1) trodAll_mk0)), rfl, bel.frame _, fun h => by cases h⟩

theorem over : Rows.fnSortedJoinAtAnyCutRow.holds Try.pinned (OpenSpec.ofChange Rows.fnSortedJoinAtAnyCutSpec) :=
  OpenClaim.holds_of_wide 8 Try.f8 rfl rfl rfl rfl rfl rfl rfl ⟨rfl, rfl, rfl, rfl, rfl⟩ rfl rfl rfl rfl rfl (by kernel_rfl) Try.func8 (by kernel_rfl)
    (of_decide_eq_true (by kernel_rfl)) (by unfold Func.isWrapper; first | (rw [if_pos (by decide +kernel)]; kernel_rfl) | (rw [if_neg (by decide +kernel)]; exact ⟨rfl, rfl⟩))
    (fun os started H enc _ => lifted os started H enc)

/-- THE STATEMENT -/
theorem proved : Rows.FnSortedJoinAtAnyCutSaid :=
  over
end Go.Proofs.Qxb6615667a.fnSortedJoinAtAnyCut
