import Derived.Test.Qxb6615667aSortZZ
import Derived.BigRegion
import Derived.Deep.QuietTactic
import Derived.BigQuiet
import Derived.WalkSpells
import Derived.Lib.SliceRun
import Derived.WalkSmall
namespace Go.Proofs.Qxb6615667a.Srt
open Go.ChangeShapes Go.WideShapes Go.ChangeAt Go.RowKit Plain

/-- The call answers a bool. -/
def SomeBool (e : Ending) : Prop := ∃ b, e = .returned (.bool b)
/-- The call answers a number and a bool. -/
def SomeTwo (e : Ending) : Prop := ∃ t b, e = .returned (.tuple #[.int .i64 t, .bool b])

/-- What the walks are told of a slice of findings that came in. -/
structure Finds (w : World) (a : Option Addr) (len cap : Nat) (d : List Fd) : Prop where
  le : len ≤ cap
  reach : cap * 48 ≤ 140737488351232
  num : d.length = len
  non : a = none → len = 0 ∧ cap = 0
  cells : ∀ k, k < len → ∃ b off, a = some ⟨b, off, none⟩ ∧ b < w.heap.size ∧ w.cell? ⟨b, off + k * 3, none⟩ = some (.string (d[k]?.getD z0).1) ∧ w.cell? ⟨b, off + k * 3 + 1, none⟩ = some (.string (d[k]?.getD z0).2.1) ∧ w.cell? ⟨b, off + k * 3 + 2, none⟩ = some (.string (d[k]?.getD z0).2.2)
  short : ∀ f ∈ d, f.1.size ≤ maxLen ∧ f.2.1.size ≤ maxLen ∧ f.2.2.size ≤ maxLen
theorem Finds.one {w : World} {a : Option Addr} {len cap : Nat} {d : List Fd} (h : Finds w a len cap d) {k : Nat} (hk : k < len) : ((d[k]?.getD z0).1.size : Int) ≤ 9223372036854775807 ∧ ((d[k]?.getD z0).2.1.size : Int) ≤ 9223372036854775807 ∧ ((d[k]?.getD z0).2.2.size : Int) ≤ 9223372036854775807 := by
  have h1 := h.num
  have : d[k]?.getD z0 ∈ d := by
    rw [List.getElem?_eq_getElem (by omega)]; exact List.getElem_mem _
  have := h.short _ this
  unfold maxLen at this; omega
theorem Finds.below {w w' : World} {a : Option Addr} {len cap : Nat} {d : List Fd} (h : Finds w a len cap d) (hb : Below w.heap.size w w') : Finds w' a len cap d :=
  ⟨h.le, h.reach, h.num, h.non, fun k hk => by
    obtain ⟨b, off, e, hl, c0, c1, c2⟩ := h.cells k hk
    exact ⟨b, off, e, Nat.lt_of_lt_of_le hl hb.size, (hb.cell (p := ⟨b, _, none⟩) hl).trans c0, (hb.cell (p := ⟨b, _, none⟩) hl).trans c1, (hb.cell (p := ⟨b, _, none⟩) hl).trans c2⟩, h.short⟩

set_option maxHeartbeats 1000000 in
theorem bytes20 (a : Option Addr) (len cap : Nat) (d : List Fd) (w : World) (hs : Finds w a len cap d) :
    Calls Try.prog 20 #[.slice a len cap] w fun e w' => SomeBool e ∧ w' = w := by
  have hl := hs.le
  have hr := hs.reach
  go_enter Try.func20, Try.ntmps20
  go_wp2
  all_goals first | (go_ret; exact ⟨⟨_, rfl⟩, rfl⟩) | skip
  go_loop [3, 4] (fun n i => ∃ (k : Nat) (m : Int), k ≤ len ∧ 0 ≤ m ∧ m ≤ 1048576 ∧ i = .int .i64 k ∧ n = .int .i64 m) (fun _ i => len - (intOf i).toNat)
  case atStart => exact ⟨0, _, Nat.zero_le _, by omega, by omega, rfl, rfl⟩
  case round =>
    obtain ⟨k, m, hk, hm0, hm1, rfl, rfl⟩ := hrel
    by_cases hlt : k < len
    · obtain ⟨b, off, rfl, hb, c0, c1, c2⟩ := hs.cells k hlt
      obtain ⟨o1, o2, o3⟩ := hs.one hlt
      clear hs
      generalize (d[k]?.getD z0).1 = f1 at *
      generalize (d[k]?.getD z0).2.1 = f2 at *
      generalize (d[k]?.getD z0).2.2 = f3 at *
      go_wp2
      all_goals first | (go_ret; exact ⟨⟨_, rfl⟩, rfl⟩) | skip
      go_round
      case rel => exact ⟨k + 1, _, by omega, by omega, by omega, by go_num, rfl⟩
      case measure => simp [intOf]; omega
    · go_wp2
      all_goals (go_ret; exact ⟨⟨_, rfl⟩, rfl⟩)

set_option maxHeartbeats 1000000 in
theorem over21 (a : Option Addr) (len cap : Nat) (t0 : Int) (d : List Fd) (w : World) (hs : Finds w a len cap d) :
    Calls Try.prog 21 #[.slice a len cap, .int .i64 t0] w fun e w' => SomeTwo e ∧ w' = w := by
  have hl := hs.le
  have hr := hs.reach
  go_enter Try.func21, Try.ntmps21
  go_wp2
  go_loop [6, 7] (fun n i => ∃ (k : Nat) (m : Int), k ≤ len ∧ i = .int .i64 k ∧ n = .int .i64 m) (fun _ i => len - (intOf i).toNat)
  case atStart => exact ⟨0, _, Nat.zero_le _, rfl, rfl⟩
  case round =>
    obtain ⟨k, m, hk, rfl, rfl⟩ := hrel
    by_cases hlt : k < len
    · obtain ⟨b, off, rfl, hb, c0, c1, c2⟩ := hs.cells k hlt
      clear hs
      generalize (d[k]?.getD z0).1 = f1 at *
      generalize (d[k]?.getD z0).2.1 = f2 at *
      generalize (d[k]?.getD z0).2.2 = f3 at *
      go_wp2
      all_goals first | (go_ret2; exact ⟨⟨_, _, rfl⟩, rfl⟩) | skip
      go_round
      case rel => exact ⟨k + 1, _, by omega, by go_num, rfl⟩
      case measure => simp [intOf]; omega
    · go_wp2
      go_ret2
      exact ⟨⟨_, _, rfl⟩, rfl⟩
end Go.Proofs.Qxb6615667a.Srt
