import Derived.Test.Qxb6615667aRows
import Derived.Test.Qxb6615667aSortPlain3
import Derived.WalkKit
import Derived.ProofKit
import Derived.OpenShut
import Derived.ShutString
import Derived.Lib.ReflectliteSwap
import Derived.Laws.Rows
namespace Go.Proofs.Qxb6615667a.Srt
open Go.ChangeShapes Go.WideShapes Go.ChangeAt Go.RowKit Plain
set_option linter.unusedSimpArgs false

/-- A finding: rule, pointer, message. -/
abbrev Fd : Type := ByteArray × ByteArray × ByteArray
def z0 : Fd := (ByteArray.empty, ByteArray.empty, ByteArray.empty)
/-- One of the six rules that the format states with MUST. -/
def mustB (r : ByteArray) : Bool :=
  r.toList == [98, 111, 100, 121, 45, 111, 98, 106, 101, 99, 116] || r.toList == [115, 116, 97, 116, 117, 115, 45, 114, 101, 113, 117, 105, 114, 101, 100] || r.toList == [99, 104, 101, 99, 107, 115, 45, 97, 114, 114, 97, 121] || r.toList == [107, 101, 121, 45, 99, 111, 108, 111, 110, 115] || r.toList == [108, 105, 110, 107, 115, 45, 117, 114, 105] || r.toList == [99, 111, 100, 101, 45, 109, 97, 116, 99, 104, 101, 115, 45, 115, 116, 97, 116, 117, 115]
def key (f : Fd) : Bool := mustB f.1

theorem must24 (r : ByteArray) (w : World) : Calls Try.prog 24 #[.string r] w fun e w' => e = .returned (.bool (mustB r)) ∧ w' = w := by
  cases h0 : (r.toList == [98, 111, 100, 121, 45, 111, 98, 106, 101, 99, 116]) with
  | true =>
    have hm : mustB r = true := by simp only [mustB, h0, Bool.or_true, Bool.true_or, Bool.or_false, Bool.false_or]
    rw [hm]
    clear hm
    go_enter Try.func24, Try.ntmps24
    go_wp2
    go_ret
    exact ⟨rfl, rfl⟩
  | false =>
  cases h1 : (r.toList == [115, 116, 97, 116, 117, 115, 45, 114, 101, 113, 117, 105, 114, 101, 100]) with
  | true =>
    have hm : mustB r = true := by simp only [mustB, h0, h1, Bool.or_true, Bool.true_or, Bool.or_false, Bool.false_or]
    rw [hm]
    clear hm
    go_enter Try.func24, Try.ntmps24
    go_wp2
    go_ret
    exact ⟨rfl, rfl⟩
  | false =>
  cases h2 : (r.toList == [99, 104, 101, 99, 107, 115, 45, 97, 114, 114, 97, 121]) with
  | true =>
    have hm : mustB r = true := by simp only [mustB, h0, h1, h2, Bool.or_true, Bool.true_or, Bool.or_false, Bool.false_or]
    rw [hm]
    clear hm
    go_enter Try.func24, Try.ntmps24
    go_wp2
    go_ret
    exact ⟨rfl, rfl⟩
  | false =>
  cases h3 : (r.toList == [107, 101, 121, 45, 99, 111, 108, 111, 110, 115]) with
  | true =>
    have hm : mustB r = true := by simp only [mustB, h0, h1, h2, h3, Bool.or_true, Bool.true_or, Bool.or_false, Bool.false_or]
    rw [hm]
    clear hm
    go_enter Try.func24, Try.ntmps24
    go_wp2
    go_ret
    exact ⟨rfl, rfl⟩
  | false =>
  cases h4 : (r.toList == [108, 105, 110, 107, 115, 45, 117, 114, 105]) with
  | true =>
    have hm : mustB r = true := by simp only [mustB, h0, h1, h2, h3, h4, Bool.or_true, Bool.true_or, Bool.or_false, Bool.false_or]
    rw [hm]
    clear hm
    go_enter Try.func24, Try.ntmps24
    go_wp2
    go_ret
    exact ⟨rfl, rfl⟩
  | false =>
  cases h5 : (r.toList == [99, 111, 100, 101, 45, 109, 97, 116, 99, 104, 101, 115, 45, 115, 116, 97, 116, 117, 115]) with
  | true =>
    have hm : mustB r = true := by simp only [mustB, h0, h1, h2, h3, h4, h5, Bool.or_true, Bool.true_or, Bool.or_false, Bool.false_or]
    rw [hm]
    clear hm
    go_enter Try.func24, Try.ntmps24
    go_wp2
    go_ret
    exact ⟨rfl, rfl⟩
  | false =>
  have hm : mustB r = false := by simp only [mustB, h0, h1, h2, h3, h4, h5, Bool.or_false]
  rw [hm]
  clear hm
  go_enter Try.func24, Try.ntmps24
  go_wp2
  go_ret
  exact ⟨rfl, rfl⟩

/-- Level: MUST at the six rules. -/
theorem level36_must (r : ByteArray) (w : World) (h : mustB r = true) : Calls Try.prog 36 #[.string r] w fun e w' => e = .returned (.string ⟨#[77, 85, 83, 84]⟩) ∧ w' = w := by
  cases h0 : (r.toList == [98, 111, 100, 121, 45, 111, 98, 106, 101, 99, 116]) with
  | true =>
    clear h
    go_enter Try.func36, Try.ntmps36
    go_wp2
    go_ret
    exact ⟨rfl, rfl⟩
  | false =>
  cases h1 : (r.toList == [115, 116, 97, 116, 117, 115, 45, 114, 101, 113, 117, 105, 114, 101, 100]) with
  | true =>
    clear h
    go_enter Try.func36, Try.ntmps36
    go_wp2
    go_ret
    exact ⟨rfl, rfl⟩
  | false =>
  cases h2 : (r.toList == [99, 104, 101, 99, 107, 115, 45, 97, 114, 114, 97, 121]) with
  | true =>
    clear h
    go_enter Try.func36, Try.ntmps36
    go_wp2
    go_ret
    exact ⟨rfl, rfl⟩
  | false =>
  cases h3 : (r.toList == [107, 101, 121, 45, 99, 111, 108, 111, 110, 115]) with
  | true =>
    clear h
    go_enter Try.func36, Try.ntmps36
    go_wp2
    go_ret
    exact ⟨rfl, rfl⟩
  | false =>
  cases h4 : (r.toList == [108, 105, 110, 107, 115, 45, 117, 114, 105]) with
  | true =>
    clear h
    go_enter Try.func36, Try.ntmps36
    go_wp2
    go_ret
    exact ⟨rfl, rfl⟩
  | false =>
  cases h5 : (r.toList == [99, 111, 100, 101, 45, 109, 97, 116, 99, 104, 101, 115, 45, 115, 116, 97, 116, 117, 115]) with
  | true =>
    clear h
    go_enter Try.func36, Try.ntmps36
    go_wp2
    go_ret
    exact ⟨rfl, rfl⟩
  | false =>
  simp only [mustB, h0, h1, h2, h3, h4, h5, Bool.or_false, Bool.false_eq_true] at h

/-- .. another level at all others. -/
theorem level36_other (r : ByteArray) (w : World) (h : mustB r = false) : Calls Try.prog 36 #[.string r] w fun e w' => (∃ v : ByteArray, e = .returned (.string v) ∧ (v.toList == [77, 85, 83, 84]) = false) ∧ w' = w := by
  simp only [mustB, Bool.or_eq_false_iff] at h
  obtain ⟨⟨⟨⟨⟨h0, h1⟩, h2⟩, h3⟩, h4⟩, h5⟩ := h
  cases g0 : (r.toList == [115, 116, 97, 116, 117, 115, 45, 118, 97, 108, 117, 101]) with
  | true =>
    go_enter Try.func36, Try.ntmps36
    go_wp2
    go_ret
    exact ⟨⟨_, rfl, by decide +kernel⟩, rfl⟩
  | false =>
  cases g1 : (r.toList == [111, 117, 116, 112, 117, 116, 45, 111, 110, 45, 112, 97, 115, 115]) with
  | true =>
    go_enter Try.func36, Try.ntmps36
    go_wp2
    go_ret
    exact ⟨⟨_, rfl, by decide +kernel⟩, rfl⟩
  | false =>
  cases g2 : (r.toList == [97, 102, 102, 101, 99, 116, 101, 100, 45, 111, 110, 45, 112, 97, 115, 115]) with
  | true =>
    go_enter Try.func36, Try.ntmps36
    go_wp2
    go_ret
    exact ⟨⟨_, rfl, by decide +kernel⟩, rfl⟩
  | false =>
  cases g3 : (r.toList == [117, 110, 105, 116, 45, 119, 105, 116, 104, 45, 118, 97, 108, 117, 101]) with
  | true =>
    go_enter Try.func36, Try.ntmps36
    go_wp2
    go_ret
    exact ⟨⟨_, rfl, by decide +kernel⟩, rfl⟩
  | false =>
  cases g4 : (r.toList == [101, 109, 112, 116, 121, 45, 99, 104, 101, 99, 107]) with
  | true =>
    go_enter Try.func36, Try.ntmps36
    go_wp2
    go_ret
    exact ⟨⟨_, rfl, by decide +kernel⟩, rfl⟩
  | false =>
  cases g5 : (r.toList == [109, 101, 100, 105, 97, 45, 116, 121, 112, 101]) with
  | true =>
    go_enter Try.func36, Try.ntmps36
    go_wp2
    go_ret
    exact ⟨⟨_, rfl, by decide +kernel⟩, rfl⟩
  | false =>
  cases g6 : (r.toList == [102, 114, 101, 115, 104, 110, 101, 115, 115]) with
  | true =>
    go_enter Try.func36, Try.ntmps36
    go_wp2
    go_ret
    exact ⟨⟨_, rfl, by decide +kernel⟩, rfl⟩
  | false =>
  go_enter Try.func36, Try.ntmps36
  go_wp2
  go_ret
  exact ⟨⟨_, rfl, by decide +kernel⟩, rfl⟩
end Go.Proofs.Qxb6615667a.Srt
