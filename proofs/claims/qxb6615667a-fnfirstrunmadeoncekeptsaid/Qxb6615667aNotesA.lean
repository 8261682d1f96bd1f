import Derived.Test.Qxb6615667aRows
import Derived.WalkKit
import Derived.ProofKit
import Derived.OpenShut
import Derived.ShutString
import Derived.SliceStrings
namespace Go.Proofs.Qxb6615667a.Notes
open Go.ChangeShapes Go.WideShapes Go.ChangeAt Go.RowKit

/-- The call answers a bool. -/
def SomeBool (e : Ending) : Prop := ∃ b, e = .returned (.bool b)

/-- What the walks are told of a slice of strings that came in. -/
structure Strs (w : World) (a : Option Addr) (len cap : Nat) (ss : List ByteArray) : Prop where
  le : len ≤ cap
  reach : cap * 16 ≤ 140737488351232
  num : ss.length = len
  non : a = none → len = 0 ∧ cap = 0
  cells : ∀ k, k < len → ∃ b off, a = some ⟨b, off, none⟩ ∧ b < w.heap.size ∧ w.cell? ⟨b, off + k, none⟩ = some (.string (ss[k]?.getD ByteArray.empty))
  short : ∀ s ∈ ss, s.size ≤ maxLen

theorem Strs.one {w : World} {a : Option Addr} {len cap : Nat} {ss : List ByteArray} (h : Strs w a len cap ss) {k : Nat} (hk : k < len) : ((ss[k]?.getD ByteArray.empty).size : Int) ≤ 9223372036854775807 := by
  have h1 := h.num
  have : ss[k]?.getD ByteArray.empty ∈ ss := by
    rw [List.getElem?_eq_getElem (by omega)]; exact List.getElem_mem _
  have := h.short _ this
  unfold maxLen at this; omega

set_option maxHeartbeats 1000000 in
theorem bytes19 (s0 s1 s3 s4 : ByteArray) (a : Option Addr) (len cap : Nat) (ss : List ByteArray) (t5 t6 : Int) (w : World) (h0 : s0.size ≤ maxLen) (h1 : s1.size ≤ maxLen) (h3 : s3.size ≤ maxLen) (h4 : s4.size ≤ maxLen) (hs : Strs w a len cap ss) :
    Calls Try.prog 19 #[.string s0, .string s1, .slice a len cap, .string s3, .string s4, .int .i64 t5, .int .i64 t6] w fun e w' => SomeBool e ∧ w' = w := by
  unfold maxLen at h0 h1 h3 h4
  have hl := hs.le
  have hr := hs.reach
  go_enter Try.func19, Try.ntmps19
  go_wp2
  all_goals first | (go_ret; exact ⟨⟨_, rfl⟩, rfl⟩) | skip
  go_loop [15, 16] (fun n i => ∃ (k : Nat) (m : Int), k ≤ len ∧ 0 ≤ m ∧ m ≤ 1048576 ∧ i = .int .i64 k ∧ n = .int .i64 m) (fun _ i => len - (intOf i).toNat)
  case atStart => exact ⟨0, _, Nat.zero_le _, by omega, by omega, rfl, rfl⟩
  case round =>
    obtain ⟨k, m, hk, hm0, hm1, rfl, rfl⟩ := hrel
    by_cases hlt : k < len
    · obtain ⟨b, off, rfl, hb, hc⟩ := hs.cells k hlt
      have hz := hs.one hlt
      go_wp2
      all_goals first | (go_ret; exact ⟨⟨_, rfl⟩, rfl⟩) | skip
      go_round
      case rel => exact ⟨k + 1, _, by omega, by omega, by omega, by go_num, rfl⟩
      case measure => simp [intOf]; omega
    · go_wp2
      all_goals (go_ret; exact ⟨⟨_, rfl⟩, rfl⟩)
set_option maxHeartbeats 1000000 in
theorem bytes12 (s0 s1 s3 s4 : ByteArray) (a : Option Addr) (len cap : Nat) (ss : List ByteArray) (t5 t6 : Int) (w : World) (h0 : s0.size ≤ maxLen) (h1 : s1.size ≤ maxLen) (h3 : s3.size ≤ maxLen) (h4 : s4.size ≤ maxLen) (hs : Strs w a len cap ss) :
    Calls Try.prog 12 #[.string s0, .string s1, .slice a len cap, .string s3, .string s4, .int .i64 t5, .int .i64 t6] w fun e w' => SomeBool e ∧ w' = w := by
  unfold maxLen at h0 h1 h3 h4
  have hl := hs.le
  have hr := hs.reach
  go_enter Try.func12, Try.ntmps12
  go_wp2
  all_goals first | (go_ret; exact ⟨⟨_, rfl⟩, rfl⟩) | skip
  go_loop [15, 16] (fun n i => ∃ (k : Nat) (m : Int), k ≤ len ∧ 0 ≤ m ∧ m ≤ 1048576 ∧ i = .int .i64 k ∧ n = .int .i64 m) (fun _ i => len - (intOf i).toNat)
  case atStart => exact ⟨0, _, Nat.zero_le _, by omega, by omega, rfl, rfl⟩
  case round =>
    obtain ⟨k, m, hk, hm0, hm1, rfl, rfl⟩ := hrel
    by_cases hlt : k < len
    · obtain ⟨b, off, rfl, hb, hc⟩ := hs.cells k hlt
      have hz := hs.one hlt
      go_wp2
      all_goals first | (go_ret; exact ⟨⟨_, rfl⟩, rfl⟩) | skip
      go_round
      case rel => exact ⟨k + 1, _, by omega, by omega, by omega, by go_num, rfl⟩
      case measure => simp [intOf]; omega
    · go_wp2
      all_goals (go_ret; exact ⟨⟨_, rfl⟩, rfl⟩)

set_option maxHeartbeats 1000000 in
theorem over13 (s0 s1 s3 s4 : ByteArray) (a : Option Addr) (len cap : Nat) (ss : List ByteArray) (w : World) (h0 : s0.size ≤ maxLen) (h1 : s1.size ≤ maxLen) (h3 : s3.size ≤ maxLen) (h4 : s4.size ≤ maxLen) (hs : Strs w a len cap ss) :
    Calls Try.prog 13 #[.string s0, .string s1, .slice a len cap, .string s3, .string s4] w fun e w' => SomeBool e ∧ w' = w := by
  unfold maxLen at h0 h1 h3 h4
  have hl := hs.le
  have hr := hs.reach
  by_cases c0 : (1048576 : Int) < (s0.size : Int)
  · go_enter Try.func13, Try.ntmps13
    go_wp2
    go_ret
    exact ⟨⟨_, rfl⟩, rfl⟩
  by_cases c1 : (1048576 : Int) < (s1.size : Int)
  · go_enter Try.func13, Try.ntmps13
    go_wp2
    go_ret
    exact ⟨⟨_, rfl⟩, rfl⟩
  by_cases c3 : (1048576 : Int) < (s3.size : Int)
  · go_enter Try.func13, Try.ntmps13
    go_wp2
    go_ret
    exact ⟨⟨_, rfl⟩, rfl⟩
  by_cases c4 : (1048576 : Int) < (s4.size : Int)
  · go_enter Try.func13, Try.ntmps13
    go_wp2
    go_ret
    exact ⟨⟨_, rfl⟩, rfl⟩
  by_cases c2 : (65536 : Int) < (len : Int)
  · go_enter Try.func13, Try.ntmps13
    go_wp2
    go_ret
    exact ⟨⟨_, rfl⟩, rfl⟩
  go_enter Try.func13, Try.ntmps13
  go_wp2
  all_goals first | (go_ret; exact ⟨⟨_, rfl⟩, rfl⟩) | skip
  go_loop [11, 12] (fun n i => ∃ (k : Nat) (m : Int), k ≤ len ∧ i = .int .i64 k ∧ n = .int .i64 m) (fun _ i => len - (intOf i).toNat)
  case atStart => exact ⟨0, _, Nat.zero_le _, rfl, rfl⟩
  case round =>
    obtain ⟨k, m, hk, rfl, rfl⟩ := hrel
    by_cases hlt : k < len
    · obtain ⟨b, off, rfl, hb, hc⟩ := hs.cells k hlt
      go_wp2
      all_goals first | (go_ret; exact ⟨⟨_, rfl⟩, rfl⟩) | skip
      go_round
      case rel => exact ⟨k + 1, _, by omega, by go_num, rfl⟩
      case measure => simp [intOf]; omega
    · go_wp2
      all_goals (go_ret; exact ⟨⟨_, rfl⟩, rfl⟩)
end Go.Proofs.Qxb6615667a.Notes
