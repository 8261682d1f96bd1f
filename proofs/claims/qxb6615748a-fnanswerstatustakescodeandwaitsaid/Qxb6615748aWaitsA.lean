import Derived.Test.Qxb6615748aRows
import Derived.WalkKit
import Derived.ProofKit
import Derived.OpenShut
import Derived.ShutString
import Derived.Stop.Asserts
namespace Go.Proofs.Qxb6615748a.Waits
open Go.ChangeShapes Go.WideShapes Go.ChangeAt Go.RowKit
theorem new5 (a b : Int) (w : World) : Calls Try.prog 5 #[.int .i64 a, .int .i64 b] w fun e w' => e = .returned (.iface 36 (.pointer (some ⟨w.heap.size, 0, none⟩))) ∧ w' = w.alloc (.cells #[.int .i64 a, .int .i64 b] 39) := by
  go_enter Try.func5, Try.ntmps5
  go_wp2
  go_ret
  exact ⟨rfl, rfl⟩
theorem min33 (g : Nat) (b : Int) (w : World) (hc : w.cell? ⟨g, 1, none⟩ = some (.int .i64 b)) : Calls Try.prog 33 #[.pointer (some ⟨g, 0, none⟩)] w fun e w' => e = .returned (.int .i64 b) ∧ w' = w := by
  go_enter Try.func33, Try.ntmps33
  go_wp2
  go_ret
  exact ⟨rfl, rfl⟩
theorem has36_49 (v : Value) (xT : TypeId) (w : World) : (Instr.typeAssert (.iface 36 v) xT 49 true).run Try.prog w = .ok (.tuple #[.iface 36 v, .bool true]) w := run_typeAssert_hasB Try.underlying49 (by kernel_rfl) v xT w
theorem no31_49 (v : Value) (xT : TypeId) (w : World) : (Instr.typeAssert (.iface 31 v) xT 49 true).run Try.prog w = .ok (.tuple #[.nilIface, .bool false]) w := run_typeAssert_lacksB Try.underlying49 (by kernel_rfl) (by kernel_rfl) v xT w
theorem no31_59 (v : Value) (xT : TypeId) (w : World) : (Instr.typeAssert (.iface 31 v) xT 59 true).run Try.prog w = .ok (.tuple #[.nilIface, .bool false]) w := run_typeAssert_lacksB Try.underlying59 (by kernel_rfl) (by kernel_rfl) v xT w
theorem no31_62 (v : Value) (xT : TypeId) (w : World) : (Instr.typeAssert (.iface 31 v) xT 62 true).run Try.prog w = .ok (.tuple #[.nilIface, .bool false]) w := run_typeAssert_lacksB Try.underlying62 (by kernel_rfl) (by kernel_rfl) v xT w
theorem has31_64 (v : Value) (xT : TypeId) (w : World) : (Instr.typeAssert (.iface 31 v) xT 64 true).run Try.prog w = .ok (.tuple #[.iface 31 v, .bool true]) w := run_typeAssert_hasB Try.underlying64 (by kernel_rfl) v xT w
theorem no41_49 (v : Value) (xT : TypeId) (w : World) : (Instr.typeAssert (.iface 41 v) xT 49 true).run Try.prog w = .ok (.tuple #[.nilIface, .bool false]) w := run_typeAssert_lacksB Try.underlying49 (by kernel_rfl) (by kernel_rfl) v xT w
theorem no41_59 (v : Value) (xT : TypeId) (w : World) : (Instr.typeAssert (.iface 41 v) xT 59 true).run Try.prog w = .ok (.tuple #[.nilIface, .bool false]) w := run_typeAssert_lacksB Try.underlying59 (by kernel_rfl) (by kernel_rfl) v xT w
theorem has41_62 (v : Value) (xT : TypeId) (w : World) : (Instr.typeAssert (.iface 41 v) xT 62 true).run Try.prog w = .ok (.tuple #[.iface 41 v, .bool true]) w := run_typeAssert_hasB Try.underlying62 (by kernel_rfl) v xT w

theorem as14_hit (g : Nat) (p : Value) (w : World) : Calls Try.prog 14 #[.iface 36 (.pointer (some ⟨g, 0, none⟩)), p] w fun e w' => e = .returned (.tuple #[.iface 36 (.pointer (some ⟨g, 0, none⟩)), .bool true]) ∧ w' = w := by
  have h1 := has36_49
  go_enter Try.func14, Try.ntmps14
  go_wp2
  refine wp_loop_rounds 1 ?_
  rw [rounds_succ]
  go_wp2
  go_ret2
  exact ⟨rfl, rfl⟩
theorem unwrap31 (g : Nat) (w : World) (h1 : w.cell? ⟨g, 1, none⟩ = some .nilIface) (h2 : w.cell? ⟨g, 2, none⟩ = some .nilIface) : Calls Try.prog 31 #[.pointer (some ⟨g, 0, none⟩)] w fun e w' => e = .returned (.slice (some ⟨w.heap.size, 0, none⟩) 2 2) ∧ w' = (w.alloc (.cells #[.nilIface, .nilIface] 24)).drew := by
  go_enter Try.func31, Try.ntmps31
  go_wp2
  go_region
  go_wp2
  go_ret
  exact ⟨rfl, rfl⟩
theorem meth31 (g : Nat) (w : World) : (method 186 31 (.pointer (some ⟨g, 0, none⟩)) "Unwrap").run Try.prog w = .ok (31, .pointer (some ⟨g, 0, none⟩)) w := by kernel_rfl

set_option maxRecDepth 100000 in
theorem as14_stop (g : Nat) (p : Value) (w : World) (c1 : w.cell? ⟨g, 1, none⟩ = some .nilIface) (c2 : w.cell? ⟨g, 2, none⟩ = some .nilIface) : Calls Try.prog 14 #[.iface 31 (.pointer (some ⟨g, 0, none⟩)), p] w fun e w' => e = .returned (.tuple #[.nilIface, .bool false]) ∧ Below w.heap.size w w' := by
  have h1 := no31_49
  have h2 := no31_59
  have h3 := no31_62
  have h4 := has31_64
  have h5 := meth31
  go_enter Try.func14, Try.ntmps14
  go_wp2
  refine wp_loop_rounds 1 ?_
  rw [rounds_succ]
  go_wp2_with (go_at_call 31; refine (unwrap31 g _ c1 c2).mono ?_; rintro e w' ⟨rfl, rfl⟩)
  refine wp_loop_rounds 3 ?_
  rw [rounds_succ]
  go_wp2
  rw [rounds_succ]
  go_wp2
  rw [rounds_succ]
  go_wp2
  go_ret2
  exact ⟨rfl, ((Below.refl _ _).alloc (Nat.le_refl _) _).drew⟩

set_option maxRecDepth 100000 in
theorem unwrap37 (v : Value) (w : World) : Calls Try.prog 37 #[.agg #[v]] w fun e w' => e = .returned v ∧ w' = w.alloc (.cells #[v] 43) := by
  go_enter Try.func37, Try.ntmps37
  go_wp2
  go_ret
  exact ⟨rfl, rfl⟩

theorem row41 : (Try.prog.info? 41).map (fun i => i.methods.find? (·.name == "Unwrap")) = some (some ⟨"Unwrap", 63, #[{ struct := 45, index := 0, deref := true }], some (37, false)⟩) := by kernel_rfl
theorem size43 : (Try.prog.info? 43).map (·.size) = some 1 := by kernel_rfl
theorem meth41 (m : Nat) (v : Value) (w : World) (hc : w.cell? ⟨m, 0, none⟩ = some v) : (method 186 41 (.pointer (some ⟨m, 0, none⟩)) "Unwrap").run Try.prog w = .ok (37, .agg #[v]) w := by
  obtain ⟨i, hi, hm⟩ := Option.map_eq_some_iff.1 row41
  obtain ⟨j, hj, hs⟩ := Option.map_eq_some_iff.1 size43
  rw [show (186 : Nat) = 185 + 1 from rfl, method]
  simp only [Sem.run_bind, typeInfo]
  simp [hi, hm, follow, run_underlying Try.underlying45, run_underlying Try.underlying43, Place.get, fieldPlace, sizeOf, typeInfo, hj, hs, receiverAt, loadVar, isAgg, asAddr, loadCells, loadCellsFrom, Addr.add]
  simp [hc, go_sem]

set_option maxRecDepth 100000 in
theorem as14_mark (m g : Nat) (p : Value) (w : World) (hg : g < w.heap.size) (c0 : w.cell? ⟨m, 0, none⟩ = some (.iface 31 (.pointer (some ⟨g, 0, none⟩)))) (c1 : w.cell? ⟨g, 1, none⟩ = some .nilIface) (c2 : w.cell? ⟨g, 2, none⟩ = some .nilIface) : Calls Try.prog 14 #[.iface 41 (.pointer (some ⟨m, 0, none⟩)), p] w fun e w' => e = .returned (.tuple #[.nilIface, .bool false]) ∧ Below w.heap.size w w' := by
  have h1 := no31_49
  have h2 := no31_59
  have h3 := no31_62
  have h4 := has31_64
  have h5 := meth31
  have k1 := no41_49
  have k2 := no41_59
  have k3 := has41_62
  have k4 := meth41 m _ w c0
  go_enter Try.func14, Try.ntmps14
  go_wp2
  refine wp_loop_rounds 2 ?_
  rw [rounds_succ]
  go_wp2_with (go_at_call 37; refine (unwrap37 _ _).mono ?_; rintro e w' ⟨rfl, rfl⟩)
  have hb : Below w.heap.size w (w.alloc (.cells #[.iface 31 (.pointer (some ⟨g, 0, none⟩))] 43)) := (Below.refl _ _).alloc (Nat.le_refl _) _
  have d1 := (hb.cell (p := ⟨g, 1, none⟩) hg).trans c1
  have d2 := (hb.cell (p := ⟨g, 2, none⟩) hg).trans c2
  clear k1 k2 k3 k4 c0 c1 c2
  rw [rounds_succ]
  go_wp2_with (go_at_call 31; refine (unwrap31 g _ d1 d2).mono ?_; rintro e w' ⟨rfl, rfl⟩)
  refine wp_loop_rounds 3 ?_
  rw [rounds_succ]
  go_wp2
  rw [rounds_succ]
  go_wp2
  rw [rounds_succ]
  go_wp2
  go_ret2
  exact ⟨rfl, (hb.alloc hb.size _).drew⟩

end Go.Proofs.Qxb6615748a.Waits
