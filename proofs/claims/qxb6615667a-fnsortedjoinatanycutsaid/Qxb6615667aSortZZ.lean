import Derived.Test.Qxb6615667aSortStable
import Derived.Lib.ReflectliteSlice
namespace Go.Proofs.Qxb6615667a.Srt
open Go.ChangeShapes Go.WideShapes Go.ChangeAt Go.RowKit Plain Go.Lib

/-! ### No element or one: nothing turns -/
theorem insertion52_none (lf sf : Fn) (la lb sa sb : Array Value) (n : Nat) (hn : n ≤ 1) (w : World) :
    Calls Try.prog 52 #[.agg #[.func lf la lb, .func sf sa sb], .int .i64 0, .int .i64 n] w fun e w' => e = .returned (.tuple #[]) ∧ Below w.heap.size w w' := by
  go_enter Try.func52, Try.ntmps52
  go_wp2
  refine wp_loop_rounds 1 ?_
  rw [rounds_succ]
  go_wp2
  go_end0
  exact ⟨rfl, (Below.refl _ _).alloc (Nat.le_refl _) _⟩

set_option maxRecDepth 100000 in
theorem stable40_tiny (lf sf : Fn) (la lb sa sb : Array Value) (n : Nat) (hn : n ≤ 1) (w : World) :
    Calls Try.prog 40 #[.agg #[.func lf la lb, .func sf sa sb], .int .i64 n] w fun e w' => e = .returned (.tuple #[]) ∧ Below w.heap.size w w' := by
  go_enter Try.func40, Try.ntmps40
  go_wp2
  refine wp_loop_rounds 1 ?_
  rw [rounds_succ]
  go_wp2_with (go_at_call 52; refine (insertion52_none lf sf la lb sa sb n hn _).mono ?_; rintro e w1 ⟨rfl, hb⟩)
  refine wp_loop_rounds 1 ?_
  rw [rounds_succ]
  go_wp2
  go_end0
  exact ⟨rfl, ((Below.refl _ _).alloc (Nat.le_refl _) _).trans (hb.mono (by simp))⟩

/-! ### sort.SliceStable -/
theorem info57 : (Try.prog.info? 57).map (·.desc) = some (.slice 65) := by kernel_rfl
theorem info65h : (Try.prog.info? 65).map (fun i => (i.hasPointers, i.bytes)) = some (true, 48) := by kernel_rfl
theorem kind65 (w : World) : (Extern.Rtype.kind 65).run Try.prog w = .ok 25 w := by kernel_rfl

/-- An entry of the model's, called by its number. -/
theorem entry {f : FuncId} {fn : Func} {e : Array Value → Sem Value} {args : Array Value} {v : Value} {w w' : World} (hf : Try.prog.funcs[f]? = some fn) (hname : (fn.name == "runtime.NumGoroutine") = false) (hb : fn.body.isNone = true) (hn : Extern.findNext fn = none) (he : Extern.find fn = some e)
    (hr : (e args).run Try.prog w = .ok v w') : (callFunc f args).run Try.prog w = .ok (.value v) w' := by
  rw [run_callFunc_extern hf hname hb hn he, hr]
  rfl

/-- ValueOf, Swapper and Len at a slice of findings. -/
theorem valueOf38 (p : Option Addr) (n c : Nat) (w : World) : (callFunc 38 #[.iface 57 (.slice p n c)]).run Try.prog w = .ok (.value (.agg #[typeHandle Try.prog 57, .pointer (some ⟨w.heap.size, 0, none⟩), .int .u64 151])) (w.alloc (.cells #[.slice p n c] 57)) := by
  obtain ⟨i, hi, hd⟩ := Option.map_eq_some_iff.1 info57
  exact entry (e := fun args => Extern.ReflectliteValue.unpack (args.getD 0 (.tuple #[]))) Try.func38 (by kernel_rfl) (by kernel_rfl) (by kernel_rfl) (by kernel_rfl) (run_valueOf_slice (P := Try.prog) 57 65 i hi hd p n c w)
theorem len41 (a : Addr) (p : Option Addr) (n c : Nat) (w : World) (ha : w.cell? a = some (.slice p n c)) : (callFunc 41 #[.agg #[typeHandle Try.prog 57, .pointer (some a), .int .u64 151]]).run Try.prog w = .ok (.value (.int .i64 n)) w := by
  obtain ⟨i, hi, hd⟩ := Option.map_eq_some_iff.1 info57
  exact entry Try.func41 (by kernel_rfl) (by kernel_rfl) (by kernel_rfl) (by kernel_rfl) (run_valueLen_slice (P := Try.prog) 57 65 i hi hd (by kernel_rfl) a p n c w ha)
theorem swapper39_big (p : Option Addr) (n c : Nat) (h2 : 2 ≤ n) (w : World) : (callFunc 39 #[.iface 57 (.slice p n c)]).run Try.prog w = .ok (.value (.func (.func 51) #[] #[.slice p n c, typeHandle Try.prog 65])) w := by
  obtain ⟨i, hi, hd⟩ := Option.map_eq_some_iff.1 info57
  obtain ⟨ie, hie, hpb⟩ := Option.map_eq_some_iff.1 info65h
  simp only [Prod.mk.injEq] at hpb
  have hk : swapperK n ie 25 = 9 := by
    have c1 : (n == 0) = false := by simp; omega
    have c2 : (n == 1) = false := by simp; omega
    simp [swapperK, c1, c2, hpb.1, hpb.2]
  have hr := run_swapper_slice (P := Try.prog) 57 65 i ie hi hd hie 25 kind65 p n c 51 (by rw [hk]; kernel_rfl) w
  rw [hk] at hr
  exact entry Try.func39 (by kernel_rfl) (by kernel_rfl) (by kernel_rfl) (by kernel_rfl) hr
theorem swapper39_tiny (p : Option Addr) (n c : Nat) (h2 : n ≤ 1) (w : World) : ∃ f, (callFunc 39 #[.iface 57 (.slice p n c)]).run Try.prog w = .ok (.value (.func (.func f) #[] #[])) w := by
  obtain ⟨i, hi, hd⟩ := Option.map_eq_some_iff.1 info57
  obtain ⟨ie, hie, hpb⟩ := Option.map_eq_some_iff.1 info65h
  by_cases h0 : n = 0
  · subst h0
    have hk : swapperK 0 ie 25 = 1 := rfl
    have hr := run_swapper_slice (P := Try.prog) 57 65 i ie hi hd hie 25 kind65 p 0 c 43 (by rw [hk]; kernel_rfl) w
    rw [hk] at hr
    exact ⟨43, entry Try.func39 (by kernel_rfl) (by kernel_rfl) (by kernel_rfl) (by kernel_rfl) hr⟩
  · obtain rfl : n = 1 := by omega
    have hk : swapperK 1 ie 25 = 2 := rfl
    have hr := run_swapper_slice (P := Try.prog) 57 65 i ie hi hd hie 25 kind65 p 1 c 44 (by rw [hk]; kernel_rfl) w
    rw [hk] at hr
    exact ⟨44, entry Try.func39 (by kernel_rfl) (by kernel_rfl) (by kernel_rfl) (by kernel_rfl) hr⟩

set_option maxHeartbeats 1000000 in
set_option maxRecDepth 100000 in
theorem slice34_tiny (lf : Fn) (la lb : Array Value) (p : Option Addr) (n c : Nat) (hn : n ≤ 1) (w : World) :
    Calls Try.prog 34 #[.iface 57 (.slice p n c), .func lf la lb] w fun e w' => e = .returned (.tuple #[]) ∧ Below w.heap.size w w' := by
  have h38 := valueOf38 p n c w
  have h41 := fun a w ha => len41 a p n c w ha
  obtain ⟨f, h39⟩ := swapper39_tiny p n c hn (((w.alloc (.cells #[.slice p n c] 57))).alloc (.cells #[typeHandle Try.prog 57, .pointer (some ⟨w.heap.size, 0, none⟩), .int .u64 151] 81))
  simp only [typeHandle] at h38 h41 h39
  generalize Try.prog.globals.size = G at *
  go_enter Try.func34, Try.ntmps34
  go_wp2_with (go_at_call 40; refine (stable40_tiny lf (.func f) la lb #[] #[] n hn _).mono ?_; rintro e w2 ⟨rfl, hb⟩)
  go_end0
  exact ⟨rfl, (((Below.refl _ _).alloc (Nat.le_refl _) _).alloc (by simp) _).trans (hb.mono (by simp; omega))⟩

set_option maxHeartbeats 1000000 in
set_option maxRecDepth 100000 in
theorem slice34_big (V L blk n : Nat) (d : List Fd) (w : World) (hE : Env V L blk n w) (hR : Row w blk d) (hn : d.length = n) (h2 : 2 ≤ n) (hnb : n ≤ 21845) :
    Calls Try.prog 34 #[.iface 57 (.slice (some ⟨blk, 0, none⟩) n n), .func (.func 35) #[] #[.pointer (some ⟨V, 0, none⟩)]] w fun e w' => e = .returned (.tuple #[]) ∧ Fr blk w w' ∧ ∃ d', Row w' blk d' ∧ d'.length = n ∧ Moved key 0 n d d' ∧ ∃ k, Parted key z0 d' 0 n k := by
  have h38 := valueOf38 (some ⟨blk, 0, none⟩) n n w
  have h41 := fun a w ha => len41 a (some ⟨blk, 0, none⟩) n n w ha
  have h39 := fun w => swapper39_big (some ⟨blk, 0, none⟩) n n h2 w
  have hsw := swap51 blk n
  obtain ⟨H, hH⟩ : ∃ H, H = typeHandle Try.prog 65 := ⟨_, rfl⟩
  rw [← hH] at hsw h39
  clear hH
  simp only [typeHandle] at h38 h41
  generalize Try.prog.globals.size = G at *
  have HS : Hid (SwapOk H blk n) := hsw
  clear hsw
  obtain ⟨w2, hw2⟩ : ∃ w2, w2 = (w.alloc (.cells #[.slice (some ⟨blk, 0, none⟩) n n] 57)).alloc (.cells #[.pointer (some ⟨G, 57, none⟩), .pointer (some ⟨w.heap.size, 0, none⟩), .int .u64 151] 81) := ⟨_, rfl⟩
  have F2 : Fr blk w w2 := by rw [hw2]; exact (Fr.alloc _ _).trans (Fr.alloc _ _)
  have R2 : Row w2 blk d := by rw [hw2]; exact (hR.alloc _).alloc _
  have E2 : Env V L blk n w2 := hE.fr F2
  have HW : Hid (w2 = (w.alloc (.cells #[.slice (some ⟨blk, 0, none⟩) n n] 57)).alloc (.cells #[.pointer (some ⟨G, 57, none⟩), .pointer (some ⟨w.heap.size, 0, none⟩), .int .u64 151] 81)) := hw2
  clear hw2 hE hR
  go_enter Try.func34, Try.ntmps34
  go_wp2_with fail
  rw [← HW.out]
  refine (stable40 V L blk n H d w2 E2 HS.out R2 hn (by omega) hnb).mono ?_
  rintro e w3 ⟨rfl, F3, d', R3, l3, m3, p3⟩
  have HZ : Hid (Moved key 0 n d d' ∧ ∃ k, Parted key z0 d' 0 n k) := ⟨m3, p3⟩
  clear m3 p3
  go_wp2
  go_end0
  exact ⟨rfl, F2.trans F3, d', R3, l3, HZ.out.1, HZ.out.2⟩

/-! ### linter.sorted, ZZsorted -/
/-- The two classes, each in the order given. -/
def part (d : List Fd) : List Fd := d.filter key ++ d.filter (fun x => !key x)
theorem part_length (d : List Fd) : (part d).length = d.length := by unfold part; rw [List.length_append]; exact length_two key d

set_option maxHeartbeats 1000000 in
set_option maxRecDepth 100000 in
theorem sorted32_big (L blk n : Nat) (d : List Fd) (w : World) (hl : L < w.heap.size) (hne : L ≠ blk) (hc : w.cell? ⟨L, 0, none⟩ = some (.slice (some ⟨blk, 0, none⟩) n n)) (hR : Row w blk d) (hn : d.length = n) (h2 : 2 ≤ n) (hnb : n ≤ 21845) :
    Calls Try.prog 32 #[.pointer (some ⟨L, 0, none⟩)] w fun e w' => e = .returned (.slice (some ⟨blk, 0, none⟩) n n) ∧ Fr blk w w' ∧ Row w' blk (part d) := by
  have hlt := hR.lt
  obtain ⟨w1, hw1⟩ : ∃ w1, w1 = w.alloc (.cells #[.pointer (some ⟨L, 0, none⟩)] 69) := ⟨_, rfl⟩
  have F1 : Fr blk w w1 := by rw [hw1]; exact Fr.alloc _ _
  have R1 : Row w1 blk d := by rw [hw1]; exact hR.alloc _
  have z1 : w.heap.size < w1.heap.size := by rw [hw1]; simp
  have v1 : w1.cell? ⟨w.heap.size, 0, none⟩ = some (.pointer (some ⟨L, 0, none⟩)) := by rw [hw1]; simp
  have l1 : w1.cell? ⟨L, 0, none⟩ = some (.slice (some ⟨blk, 0, none⟩) n n) := (F1.cell hl hne).trans hc
  have E1 : Env w.heap.size L blk n w1 := ⟨z1, by omega, by omega, hne, v1, l1⟩
  have HW : Hid (w1 = w.alloc (.cells #[.pointer (some ⟨L, 0, none⟩)] 69)) := hw1
  clear hw1 hR
  go_enter Try.func32, Try.ntmps32
  go_wp2_with fail
  rw [← HW.out]
  clear HW
  generalize w.heap.size = V at *
  refine (slice34_big V L blk n d w1 E1 R1 hn h2 hnb).mono ?_
  rintro e w2 ⟨rfl, F2, d', R2, l2, m2, k, p2⟩
  have hd : d' = part d := stable_of key (by rw [hn]; exact m2) (by rw [hn]; exact p2)
  subst hd
  have v2 := (F2.cell (o := 0) E1.vlt E1.vne).trans v1
  have c2 := (F2.cell (o := 0) E1.llt E1.lne).trans l1
  clear m2 p2 R1 E1 v1 l1 hc
  go_wp2
  go_ret
  exact ⟨rfl, F1.trans F2, R2⟩

set_option maxHeartbeats 1000000 in
set_option maxRecDepth 100000 in
theorem sorted32_tiny (L n c : Nat) (p : Option Addr) (w : World) (hl : L < w.heap.size) (hc : w.cell? ⟨L, 0, none⟩ = some (.slice p n c)) (hn : n ≤ 1) :
    Calls Try.prog 32 #[.pointer (some ⟨L, 0, none⟩)] w fun e w' => e = .returned (.slice p n c) ∧ Below w.heap.size w w' := by
  have hb1 : Below w.heap.size w (w.alloc (.cells #[.pointer (some ⟨L, 0, none⟩)] 69)) := (Below.refl _ _).alloc (Nat.le_refl _) _
  go_enter Try.func32, Try.ntmps32
  go_wp2_with fail
  refine (slice34_tiny (.func 35) #[] #[.pointer (some ⟨w.heap.size, 0, none⟩)] p n c hn _).mono ?_
  rintro e w2 ⟨rfl, hb⟩
  have v2 : w2.cell? ⟨w.heap.size, 0, none⟩ = some (.pointer (some ⟨L, 0, none⟩)) := (hb.cell (p := ⟨w.heap.size, 0, none⟩) (by simp)).trans (by simp)
  have c2 : w2.cell? ⟨L, 0, none⟩ = some (.slice p n c) := (hb.cell (p := ⟨L, 0, none⟩) (by simp; omega)).trans ((hb1.cell (p := ⟨L, 0, none⟩) hl).trans hc)
  have hB : Below w.heap.size w w2 := hb1.trans (hb.mono (by simp))
  clear hb hb1 hc
  go_wp2
  go_ret
  exact ⟨rfl, hB⟩

/-- The block of a slice; a number past all of them where it is nil. -/
def bk (p : Option Addr) (w : World) : Nat := match p with | some a => a.block | none => w.heap.size
/-- A slice of findings that has its block to itself: nil, or the whole of a row. -/
def FindRow (w : World) (p : Option Addr) (n : Nat) (d : List Fd) : Prop := d.length = n ∧ (p = none ∧ n = 0 ∨ ∃ blk, p = some ⟨blk, 0, none⟩ ∧ Row w blk d)

theorem part_tiny (d : List Fd) (h : d.length ≤ 1) : part d = d := by
  match d, h with
  | [], _ => rfl
  | [x], _ => unfold part; cases hk : key x <;> simp [hk]
theorem Row.below {w w' : World} {blk : Nat} {d : List Fd} (h : Row w blk d) (hb : Below w.heap.size w w') : Row w' blk d := by
  unfold Row at *
  rw [hb.block blk (Row.lt h)]; exact h
theorem Fr.of_below {blk : Nat} {w w' : World} (h : Below w.heap.size w w') : Fr blk w w' := ⟨h.os, h.tape, h.output, h.size, fun k hk _ => h.block k hk⟩

/-- ZZsorted: the same slice, its row in the stable order; every other old block as it was. -/
theorem zz22 (n : Nat) (p : Option Addr) (d : List Fd) (w : World) (hF : FindRow w p n d) (hnb : n ≤ 21845) :
    Calls Try.prog 22 #[.slice p n n] w fun e w' => e = .returned (.slice p n n) ∧ FindRow w' p n (part d) ∧ Fr (bk p w) w w' := by
  obtain ⟨hn, hp⟩ := hF
  have hb1 : Below w.heap.size w (w.alloc (.cells #[.slice p n n] 71)) := (Below.refl _ _).alloc (Nat.le_refl _) _
  by_cases h2 : 2 ≤ n
  · rcases hp with ⟨_, h0⟩ | ⟨blk, rfl, hR⟩
    · omega
    · have hlt := hR.lt
      have hR1 := hR.alloc (.cells #[.slice (some ⟨blk, 0, none⟩) n n] 71)
      clear hb1 hR
      go_enter Try.func22, Try.ntmps22
      go_wp2_with fail
      refine (sorted32_big w.heap.size blk n d _ (by simp) (by omega) (by simp) hR1 hn h2 hnb).mono ?_
      rintro e w2 ⟨rfl, F2, R2⟩
      go_wp2
      go_ret
      exact ⟨rfl, ⟨by rw [part_length]; exact hn, Or.inr ⟨blk, rfl, R2⟩⟩, (Fr.alloc _ _).trans F2⟩
  · have hpt := part_tiny d (by omega)
    rw [hpt]
    go_enter Try.func22, Try.ntmps22
    go_wp2_with fail
    refine (sorted32_tiny w.heap.size n n p _ (by simp) (by simp) (by omega)).mono ?_
    rintro e w2 ⟨rfl, hb⟩
    have hB : Below w.heap.size w w2 := hb1.trans (hb.mono (by simp))
    clear hb hb1 hpt
    go_wp2
    go_ret
    refine ⟨rfl, ⟨hn, ?_⟩, Fr.of_below hB⟩
    rcases hp with h0 | ⟨blk, rfl, hR⟩
    · exact Or.inl h0
    · exact Or.inr ⟨blk, rfl, hR.below hB⟩
end Go.Proofs.Qxb6615667a.Srt
