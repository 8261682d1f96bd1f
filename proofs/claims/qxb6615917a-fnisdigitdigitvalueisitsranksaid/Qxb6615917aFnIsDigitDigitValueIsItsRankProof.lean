import Derived.Test.Qxb6615917aRows
import Derived.WalkKit
import Derived.ProofKit
import Derived.OpenShut
import Derived.ShutString
namespace Go.Proofs.Qxb6615917a.fnIsDigitDigitValueIsItsRank
open Go.ChangeShapes Go.WideShapes Go.ChangeAt Go.RowKit
set_option linter.unusedVariables false

theorem own : ownKnob Try.prog.godebug = none := by kernel_rfl

/-! ### THE PLAIN LAW -/
def digB (c : Int) : Bool := decide (48 ≤ c ∧ c ≤ 57)
/-- How many digits lie below k. -/
def rank (k : Int) : Int := if k < 48 then 0 else if k < 58 then k - 48 else 10
theorem rank_bd (k : Int) : 0 ≤ rank k ∧ rank k ≤ 10 := by unfold rank; split <;> (try split) <;> omega

theorem rank_yes (k : Nat) (h1 : 48 ≤ (k : Int)) (h2 : (k : Int) ≤ 57) : rank ((k + 1 : Nat) : Int) = rank k + 1 := by unfold rank; split <;> split <;> (try split) <;> (try split) <;> omega
theorem rank_yes_lt (k : Nat) (a : Int) (h1 : 48 ≤ (k : Int)) (h2 : (k : Int) ≤ 57) (h : (k : Int) < a) : rank (min ((k + 1 : Nat) : Int) a) = rank (min (k : Int) a) + 1 := by
  rw [show min ((k + 1 : Nat) : Int) a = ((k + 1 : Nat) : Int) from by omega, show min (k : Int) a = k from by omega]; exact rank_yes k h1 h2
theorem rank_ge (k : Nat) (a : Int) (h : ¬ (k : Int) < a) : rank (min ((k + 1 : Nat) : Int) a) = rank (min (k : Int) a) := by
  rw [show min ((k + 1 : Nat) : Int) a = a from by omega, show min (k : Int) a = a from by omega]
theorem rank_no (k : Nat) (h : ¬ (48 ≤ (k : Int) ∧ (k : Int) ≤ 57)) : rank ((k + 1 : Nat) : Int) = rank k := by unfold rank; split <;> split <;> (try split) <;> (try split) <;> omega
theorem rank_no_min (k : Nat) (a : Int) (h : ¬ (48 ≤ (k : Int) ∧ (k : Int) ≤ 57)) : rank (min ((k + 1 : Nat) : Int) a) = rank (min (k : Int) a) := by
  by_cases c : (k : Int) < a
  · rw [show min ((k + 1 : Nat) : Int) a = ((k + 1 : Nat) : Int) from by omega, show min (k : Int) a = k from by omega]; exact rank_no k h
  · exact rank_ge k a c

theorem isDigit (c : Int) (w : World) : Calls Try.prog 10 #[.int .u8 c] w fun e w' => e = .returned (.bool (digB c)) ∧ w' = w := by
  by_cases h1 : 48 ≤ c
  · have h5 : digB c = decide (c ≤ 57) := by unfold digB; rw [decide_eq_decide]; omega
    go_enter Try.func10, Try.ntmps10
    go_wp2
    go_ret
    exact ⟨by rw [h5]; rfl, rfl⟩
  · have h5 : digB c = false := by unfold digB; exact decide_eq_false (by omega)
    go_enter Try.func10, Try.ntmps10
    go_wp2
    go_ret
    exact ⟨rfl, rfl⟩
theorem zzIsDigit (c : Int) (w : World) : Calls Try.prog 5 #[.int .u8 c] w fun e w' => e = .returned (.bool (digB c)) ∧ w' = w := by
  go_enter Try.func5, Try.ntmps5
  go_wp2_with (go_at_call 10; refine (isDigit _ _).mono ?_; rintro e w' ⟨rfl, rfl⟩)
  go_ret
  exact ⟨rfl, rfl⟩
set_option maxRecDepth 100000 in
theorem walk (a0 : Int) (w0 : (Lit.int .u8 a0).wf = true) (w : World) :
    Calls Try.prog 3 #[.int .u8 a0] w fun e w' => e = .returned (.bool true) ∧ Grown w w' := by
  have hb := bounds_u8 w0
  obtain ⟨b0, b1⟩ := hb
  go_enter Try.func3, Try.ntmps3
  go_wp2
  go_loop [3, 4, 5] (fun t b i => ∃ k : Nat, k ≤ 256 ∧ i = .int .i64 k ∧ t = .int .i64 (rank k) ∧ b = .int .i64 (rank (min (k : Int) a0))) (fun _ _ i => 256 - (intOf i).toNat)
  case atStart => exact ⟨0, by omega, rfl, rfl, by congr 1; unfold rank; omega⟩
  case round =>
    obtain ⟨k, hk, rfl, rfl, rfl⟩ := hrel
    have r1 := rank_bd k
    have r2 := rank_bd (min (k : Int) a0)
    by_cases hlt : k < 256
    · have hlt' : (k : Int) < 256 := by omega
      by_cases hd : 48 ≤ (k : Int) ∧ (k : Int) ≤ 57
      · have hd' : digB k = true := decide_eq_true hd
        have HT : Hid (rank ((k + 1 : Nat) : Int) = rank k + 1) := rank_yes k hd.1 hd.2
        by_cases hc : (k : Int) < a0
        · have HB : Hid (rank (min ((k + 1 : Nat) : Int) a0) = rank (min (k : Int) a0) + 1) := rank_yes_lt k a0 hd.1 hd.2 hc
          clear hd
          go_wp2_with (go_at_call 5; refine (zzIsDigit _ _).mono ?_; rintro e w' ⟨rfl, rfl⟩)
          go_round
          case rel => exact ⟨k + 1, by omega, by go_num, by rw [HT.out], by rw [HB.out]⟩
          case measure => simp [intOf]; omega
        · have HB : Hid (rank (min ((k + 1 : Nat) : Int) a0) = rank (min (k : Int) a0)) := rank_ge k a0 hc
          clear hd
          go_wp2_with (go_at_call 5; refine (zzIsDigit _ _).mono ?_; rintro e w' ⟨rfl, rfl⟩)
          go_round
          case rel => exact ⟨k + 1, by omega, by go_num, by rw [HT.out], by rw [HB.out]⟩
          case measure => simp [intOf]; omega
      · have hd' : digB k = false := decide_eq_false hd
        have HT : Hid (rank ((k + 1 : Nat) : Int) = rank k) := rank_no k hd
        have HB : Hid (rank (min ((k + 1 : Nat) : Int) a0) = rank (min (k : Int) a0)) := rank_no_min k a0 hd
        clear hd
        go_wp2_with (go_at_call 5; refine (zzIsDigit _ _).mono ?_; rintro e w' ⟨rfl, rfl⟩)
        go_round
        case rel => exact ⟨k + 1, by omega, by go_num, by rw [HT.out], by rw [HB.out]⟩
        case measure => simp [intOf]; omega
    · have e1 : rank (k : Int) = 10 := by unfold rank; rw [if_neg (by omega), if_neg (by omega)]
      by_cases hd : 48 ≤ a0 ∧ a0 ≤ 57
      · have hd' : digB a0 = true := decide_eq_true hd
        have e2 : rank (min (k : Int) a0) = a0 - 48 := by unfold rank; rw [if_neg (by omega), if_pos (by omega)]; omega
        clear hd r1 r2
        go_wp2_with (go_at_call 5; refine (zzIsDigit _ _).mono ?_; rintro e w' ⟨rfl, rfl⟩)
        go_ret
        exact ⟨rfl, Grown.refl _⟩
      · have hd' : digB a0 = false := decide_eq_false hd
        by_cases hlo : a0 < 48
        · have e2 : rank (min (k : Int) a0) = 0 := by unfold rank; rw [if_pos (by omega)]
          clear hd r1 r2
          go_wp2_with (go_at_call 5; refine (zzIsDigit _ _).mono ?_; rintro e w' ⟨rfl, rfl⟩)
          go_ret
          exact ⟨rfl, Grown.refl _⟩
        · have e2 : rank (min (k : Int) a0) = 10 := by unfold rank; rw [if_neg (by omega), if_neg (by omega)]
          clear hd r1 r2
          go_wp2_with (go_at_call 5; refine (zzIsDigit _ _).mono ?_; rintro e w' ⟨rfl, rfl⟩)
          go_ret
          exact ⟨rfl, Grown.refl _⟩


/-! ### THE ROW's STEP -/
set_option maxRecDepth 100000 in
theorem lifted (os : Os) (started : os.Started) (H : Type) (enc : TypeId × Value → H) :
    ReturnsInHanded {} Try.checked os 3 .any (Rows.fnIsDigitDigitValueIsItsRankSpec.pre6 enc Try.prog Try.f3 Rows.fnIsDigitDigitValueIsItsRankRow.domain false) (Rows.fnIsDigitDigitValueIsItsRankSpec.post enc Try.prog Try.f3 false true false false) := by
  refine returnsInHanded_of_change (C := Try.checked) own started (by kernel_rfl) Try.func3
    (ChangeSpec.witness6 (enc := enc) (C := Try.checked) false ⟨#[], #[.int .u8 0], []⟩ 8 (by kernel_rfl) (by kernel_rfl) (by kernel_rfl) (by kernel_rfl)) ?_
  intro W base args ds gs before hval0 hW hcnd _
  have hval : ∀ (j : Nat) t v, Try.f3.params[j]? = some t → args[j]? = some v → Value.okWide Try.prog W .any base t v := hval0
  have hW' := hW
  obtain ⟨p, q, hA0, hV, rfl, hfz, hnd⟩ := hW
  have hA : DataW.TrodAll enc Try.prog W 0 (fun _ => true) true Try.f3.params.toList args.toList ds p := hA0
  rw [Try.params3] at hA hval
  obtain ⟨v0, vs0, d0, ds0, p0, q0, hargs, rfl, rfl, h0, r0⟩ := trodAll_cons hA
  obtain ⟨rfl, rfl, rfl⟩ := trodAll_nil r0
  obtain rfl : args = #[v0] := by cases args; simp_all
  obtain ⟨rfl, rfl⟩ := trodVars_none hV
  obtain ⟨a0, rfl, rfl, rfl, w0⟩ := open_int Try.underlying5 (hval 0 5 v0 rfl rfl) h0
  clear hA0 hval0
  simp only [List.append_nil] at hW'
  refine (walk a0 w0 W).mono fun e W' ⟨he, hg⟩ => ?_
  subst he
  exact ⟨_, rfl, post_of_same (pa := []) (pv := []) hW' (fun _ _ _ => (trodAll_cons_mk (shut_bool Try.underlying4 _) trodAll_mk0)) (fun sp _ => (trodAll_cons_mk (shut_int Try.underlying5 w0) trodAll_mk0)) (fun _ _ => rfl) rfl
    (hg.frame _) hg.2.1 (ok_one (by kernel_rfl) rfl (okWide_bool_mk Try.underlying4 _))⟩

theorem over : Rows.fnIsDigitDigitValueIsItsRankRow.holds Try.pinned (OpenSpec.ofChange Rows.fnIsDigitDigitValueIsItsRankSpec) :=
  OpenClaim.holds_of_wide 3 Try.f3 rfl rfl rfl rfl rfl rfl rfl ⟨rfl, rfl, rfl, rfl, rfl⟩ rfl rfl rfl rfl rfl (by kernel_rfl) Try.func3 (by kernel_rfl)
    (of_decide_eq_true (by kernel_rfl)) (by unfold Func.isWrapper; first | (rw [if_pos (by decide +kernel)]; kernel_rfl) | (rw [if_neg (by decide +kernel)]; exact ⟨rfl, rfl⟩))
    (fun os started H enc _ => lifted os started H enc)

/-- ████ THE STATEMENT ████ -/
theorem proved : Rows.FnIsDigitDigitValueIsItsRankSaid :=
  over
end Go.Proofs.Qxb6615917a.fnIsDigitDigitValueIsItsRank
