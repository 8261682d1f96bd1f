import Derived.Test.Qxb6615667aNotesB
import Derived.Deep.QuietTactic
import Derived.BigQuiet
import Derived.WalkSmall
namespace Go.Proofs.Qxb6615667a.Notes
open Go.ChangeShapes Go.WideShapes Go.ChangeAt Go.RowKit

theorem len_chan (w : World) (c : Nat) (ty : TypeId) (hc : w.heap[c]? = some (.chan 0 #[] false 0 0 false)) :
    (Builtin.len_ #[31] ty #[.chan (some c)]).run Try.prog w = .ok (.int .i64 0) w := by
  simp [Builtin.len_, run_underlying Try.underlying31, run_getObj_chan _ _ hc, goInt]
theorem cap_chan (w : World) (c : Nat) (ty : TypeId) (hc : w.heap[c]? = some (.chan 0 #[] false 0 0 false)) :
    (Builtin.cap_ #[31] ty #[.chan (some c)]).run Try.prog w = .ok (.int .i64 0) w := by
  simp [Builtin.cap_, run_underlying Try.underlying31, run_getObj_chan _ _ hc, goInt]

/-- The two slices are both nil or both not, as long, and hold the same strings: sameStrings says true. -/
theorem same18_nil (w : World) : Calls Try.prog 18 #[.slice none 0 0, .slice none 0 0] w fun e w' => e = .returned (.bool true) ∧ Below w.heap.size w w' := by
  have he := fun w a l c => Lib.run_eql_slice_nil (P := Try.prog) w 25 9 a l c 0 0 Try.underlying25
  go_enter Try.func18, Try.ntmps18
  go_wp2
  go_loop [5] (fun i => i = .int .i64 0) (fun _ => 0)
  case atStart => rfl
  case round =>
    subst hrel
    go_wp2
    go_ret
    exact ⟨rfl, Below.refl _ _⟩

set_option maxHeartbeats 1000000 in
set_option maxRecDepth 100000 in
theorem same18_some (x y : Addr) (len cap cap' : Nat) (ss : List ByteArray) (w : World) (hs : Strs w (some x) len cap ss) (ht : Strs w (some y) len cap' ss) :
    Calls Try.prog 18 #[.slice (some x) len cap, .slice (some y) len cap'] w fun e w' => e = .returned (.bool true) ∧ Below w.heap.size w w' := by
  have he := fun w a l c => Lib.run_eql_slice_nil (P := Try.prog) w 25 9 a l c 0 0 Try.underlying25
  have hl := hs.le
  have hr := hs.reach
  go_enter Try.func18, Try.ntmps18
  go_wp2
  go_loopw [5] (fun i wr => ∃ k : Nat, k ≤ len ∧ i = .int .i64 k ∧ Below w.heap.size w wr) (fun i _ => len - (intOf i).toNat)
  case atStart => exact ⟨0, Nat.zero_le _, rfl, Below.refl _ _⟩
  case round =>
    obtain ⟨k, hk, rfl, hbl⟩ := hrel
    by_cases hlt : k < len
    · obtain ⟨b, off, hx, hb, hc⟩ := hs.cells k hlt
      obtain ⟨b2, off2, hy, hb2, hc2⟩ := ht.cells k hlt
      simp only [Option.some.injEq] at hx hy
      subst hx hy
      have g1 := (hbl.cell (p := ⟨b, off + k, none⟩) hb).trans hc
      have g2 := (hbl.cell (p := ⟨b2, off2 + k, none⟩) hb2).trans hc2
      clear hc hc2 hs ht
      have hi : (k : Int) < (len : Int) := by omega
      generalize ss[k]?.getD ByteArray.empty = s at *
      go_wp2
      go_quiet (fail)
      go_wp2
      go_roundw
      case rel => exact ⟨k + 1, by omega, by go_num, below_drewN hbl _⟩
      case measure => simp [intOf]; omega
    · go_wp2
      go_ret
      exact ⟨rfl, hbl⟩

theorem same18 (a b : Option Addr) (len cap cap' : Nat) (ss : List ByteArray) (w : World) (hs : Strs w a len cap ss) (ht : Strs w b len cap' ss) (hn : b.isNone = a.isNone) :
    Calls Try.prog 18 #[.slice a len cap, .slice b len cap'] w fun e w' => e = .returned (.bool true) ∧ Below w.heap.size w w' := by
  cases a with
  | none =>
    cases b with
    | none =>
      obtain ⟨rfl, rfl⟩ := hs.non rfl
      obtain ⟨_, rfl⟩ := ht.non rfl
      exact same18_nil w
    | some y => simp at hn
  | some x =>
    cases b with
    | none => simp at hn
    | some y => exact same18_some x y len cap cap' ss w hs ht
end Go.Proofs.Qxb6615667a.Notes
