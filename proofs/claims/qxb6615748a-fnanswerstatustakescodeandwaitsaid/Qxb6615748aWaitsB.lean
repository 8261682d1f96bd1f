import Derived.Test.Qxb6615748aWaitsA
namespace Go.Proofs.Qxb6615748a.Waits
open Go.ChangeShapes Go.WideShapes Go.ChangeAt Go.RowKit

/-! ### askedWait, by what it is handed -/
set_option maxRecDepth 100000 in
theorem ask12_hit (g : Nat) (w : World) : Calls Try.prog 12 #[.iface 36 (.pointer (some ⟨g, 0, none⟩))] w fun e w' => e = .returned (.tuple #[.iface 36 (.pointer (some ⟨g, 0, none⟩)), .bool true]) ∧ Below w.heap.size w w' := by
  go_enter Try.func12, Try.ntmps12
  go_wp2_with (go_at_call 14; refine (as14_hit g _ _).mono ?_; rintro e w' ⟨rfl, rfl⟩)
  go_ret2
  exact ⟨rfl, (Below.refl _ _).alloc (Nat.le_refl _) _⟩

set_option maxRecDepth 100000 in
theorem ask12_stop (g : Nat) (w : World) (hg : g < w.heap.size) (c1 : w.cell? ⟨g, 1, none⟩ = some .nilIface) (c2 : w.cell? ⟨g, 2, none⟩ = some .nilIface) : Calls Try.prog 12 #[.iface 31 (.pointer (some ⟨g, 0, none⟩))] w fun e w' => e = .returned (.tuple #[.nilIface, .bool false]) ∧ Below w.heap.size w w' := by
  have hb : ∀ o, Below w.heap.size w (w.alloc o) := fun o => (Below.refl _ _).alloc (Nat.le_refl _) o
  have d1 := fun o => ((hb o).cell (p := ⟨g, 1, none⟩) hg).trans c1
  have d2 := fun o => ((hb o).cell (p := ⟨g, 2, none⟩) hg).trans c2
  go_enter Try.func12, Try.ntmps12
  go_wp2_with (go_at_call 14; refine (as14_stop g _ _ (d1 _) (d2 _)).mono ?_; rintro e w' ⟨rfl, hw⟩)
  go_ret2
  exact ⟨rfl, (hb _).trans (hw.mono (hb _).size)⟩
set_option maxRecDepth 100000 in
theorem ask12_mark (m g : Nat) (w : World) (hm : m < w.heap.size) (hg : g < w.heap.size) (c0 : w.cell? ⟨m, 0, none⟩ = some (.iface 31 (.pointer (some ⟨g, 0, none⟩)))) (c1 : w.cell? ⟨g, 1, none⟩ = some .nilIface) (c2 : w.cell? ⟨g, 2, none⟩ = some .nilIface) : Calls Try.prog 12 #[.iface 41 (.pointer (some ⟨m, 0, none⟩))] w fun e w' => e = .returned (.tuple #[.nilIface, .bool false]) ∧ Below w.heap.size w w' := by
  have hb : ∀ o, Below w.heap.size w (w.alloc o) := fun o => (Below.refl _ _).alloc (Nat.le_refl _) o
  have d0 := fun o => ((hb o).cell (p := ⟨m, 0, none⟩) hm).trans c0
  have d1 := fun o => ((hb o).cell (p := ⟨g, 1, none⟩) hg).trans c1
  have d2 := fun o => ((hb o).cell (p := ⟨g, 2, none⟩) hg).trans c2
  go_enter Try.func12, Try.ntmps12
  go_wp2_with (go_at_call 14; refine (as14_mark m g _ _ (Nat.lt_of_lt_of_le hg (hb _).size) (d0 _) (d1 _) (d2 _)).mono ?_; rintro e w' ⟨rfl, hw⟩)
  go_ret2
  exact ⟨rfl, (hb _).trans (hw.mono (hb _).size)⟩
theorem ask12_nil (w : World) : Calls Try.prog 12 #[.nilIface] w fun e w' => e = .returned (.tuple #[.nilIface, .bool false]) ∧ Below w.heap.size w w' := by
  go_enter Try.func12, Try.ntmps12
  go_wp2
  go_ret2
  exact ⟨rfl, Below.refl _ _⟩

/-- A method of *statusError with the receiver itself, by whatever name the text calls it. -/
theorem meth36 (g : Nat) (w : World) (nm : String) (h : (Try.prog.info? 36).map (fun i => (i.methods.find? (·.name == nm)).map (fun m => (m.path, m.func))) = some (some (#[], some (33, true)))) :
    (method 186 36 (.pointer (some ⟨g, 0, none⟩)) nm).run Try.prog w = .ok (33, .pointer (some ⟨g, 0, none⟩)) w := by
  obtain ⟨i, hi, hm⟩ := Option.map_eq_some_iff.1 h
  obtain ⟨m, hm1, hm2⟩ := Option.map_eq_some_iff.1 hm
  obtain ⟨n', sg, pa, fu⟩ := m
  simp only [Prod.mk.injEq] at hm2
  obtain ⟨rfl, rfl⟩ := hm2
  rw [show (186 : Nat) = 185 + 1 from rfl, method]
  simp only [Sem.run_bind, typeInfo]
  simp [hi, hm1, follow, run_underlying Try.underlying36, Place.get, receiverAt]

set_option maxRecDepth 100000 in
theorem ask10_hit (g : Nat) (b : Int) (w : World) (hg : g < w.heap.size) (hc : w.cell? ⟨g, 1, none⟩ = some (.int .i64 b)) : Calls Try.prog 10 #[.iface 36 (.pointer (some ⟨g, 0, none⟩))] w fun e w' => e = .returned (.int .i64 b) ∧ Below w.heap.size w w' := by
  go_enter Try.func10, Try.ntmps10
  go_wp2_with (go_at_call 12; refine (ask12_hit g _).mono ?_; rintro e w1 ⟨rfl, hb⟩)
  have hc1 := (hb.cell (p := ⟨g, 1, none⟩) hg).trans hc
  rw [meth36 g]
  · go_wp2_with (go_at_call 33; refine (min33 g b _ hc1).mono ?_; rintro e w2 ⟨rfl, rfl⟩)
    go_ret
    exact ⟨rfl, hb⟩
  · kernel_rfl

set_option maxRecDepth 100000 in
theorem ask10_stop (g : Nat) (w : World) (hg : g < w.heap.size) (c1 : w.cell? ⟨g, 1, none⟩ = some .nilIface) (c2 : w.cell? ⟨g, 2, none⟩ = some .nilIface) : Calls Try.prog 10 #[.iface 31 (.pointer (some ⟨g, 0, none⟩))] w fun e w' => e = .returned (.int .i64 0) ∧ Below w.heap.size w w' := by
  go_enter Try.func10, Try.ntmps10
  go_wp2_with (go_at_call 12; refine (ask12_stop g _ hg c1 c2).mono ?_; rintro e w1 ⟨rfl, hb⟩)
  go_ret
  exact ⟨rfl, hb⟩
set_option maxRecDepth 100000 in
theorem ask10_mark (m g : Nat) (w : World) (hm : m < w.heap.size) (hg : g < w.heap.size) (c0 : w.cell? ⟨m, 0, none⟩ = some (.iface 31 (.pointer (some ⟨g, 0, none⟩)))) (c1 : w.cell? ⟨g, 1, none⟩ = some .nilIface) (c2 : w.cell? ⟨g, 2, none⟩ = some .nilIface) : Calls Try.prog 10 #[.iface 41 (.pointer (some ⟨m, 0, none⟩))] w fun e w' => e = .returned (.int .i64 0) ∧ Below w.heap.size w w' := by
  go_enter Try.func10, Try.ntmps10
  go_wp2_with (go_at_call 12; refine (ask12_mark m g _ hm hg c0 c1 c2).mono ?_; rintro e w1 ⟨rfl, hb⟩)
  go_ret
  exact ⟨rfl, hb⟩
theorem ask10_nil (w : World) : Calls Try.prog 10 #[.nilIface] w fun e w' => e = .returned (.int .i64 0) ∧ Below w.heap.size w w' := by
  go_enter Try.func10, Try.ntmps10
  go_wp2_with (go_at_call 12; refine (ask12_nil _).mono ?_; rintro e w1 ⟨rfl, hb⟩)
  go_ret
  exact ⟨rfl, hb⟩

theorem zz7 (v : Value) (b : Int) (w : World) (h : Calls Try.prog 10 #[v] w fun e w' => e = .returned (.int .i64 b) ∧ Below w.heap.size w w') : Calls Try.prog 7 #[v] w fun e w' => e = .returned (.int .i64 b) ∧ Below w.heap.size w w' := by
  have H : Hid (Calls Try.prog 10 #[v] w fun e w' => e = .returned (.int .i64 b) ∧ Below w.heap.size w w') := h
  clear h
  go_enter Try.func7, Try.ntmps7
  go_wp2_with (go_at_call 10; refine H.out.mono ?_; rintro e w' ⟨rfl, hb⟩)
  go_ret
  exact ⟨rfl, hb⟩
theorem perm8 (v : Value) (u : TypeId) (w : World) : Calls Try.prog 8 #[.iface u v] w fun e w' => e = .returned (.iface 41 (.pointer (some ⟨w.heap.size, 0, none⟩))) ∧ w' = w.alloc (.cells #[.iface u v] 45) := by
  go_enter Try.func8, Try.ntmps8
  go_wp2
  go_ret
  exact ⟨rfl, rfl⟩
end Go.Proofs.Qxb6615748a.Waits
