import Derived.Test.Qxb6615667aNotesC
import Derived.SizedLaws
import Derived.ChangeOld
import Derived.Below
namespace Go.Proofs.Qxb6615667a.fnFirstRunMadeOnceKept
open Go.ChangeShapes Go.WideShapes Go.ChangeAt Go.RowKit Notes
open Go.ChangeMaps (open_string shut_string)
set_option linter.unusedVariables false

set_option maxHeartbeats 1000000 in
set_option maxRecDepth 100000 in
theorem walk (s0 s1 s3 s4 : ByteArray) (a : Option Addr) (len cap : Nat) (ss : List ByteArray) (t5 t6 : Int) (w : World) (h0 : s0.size ≤ maxLen) (h1 : s1.size ≤ maxLen) (h3 : s3.size ≤ maxLen) (h4 : s4.size ≤ maxLen) (hs : Strs w a len cap ss) :
    Calls Try.prog 5 #[.string s0, .string s1, .slice a len cap, .string s3, .string s4, .int .i64 t5, .int .i64 t6] w fun e w' => e = .returned (.bool true) ∧ Below w.heap.size w w' := by
  have hq := eql_chan
  have hn := neq_chan
  go_enter Try.func5, Try.ntmps5
  go_wp2_with fail
  refine (bytes12 s0 s1 s3 s4 a len cap ss t5 t6 w h0 h1 h3 h4 hs).mono ?_
  rintro e w' ⟨⟨b, rfl⟩, rfl⟩
  cases b with
  | false =>
    go_wp2
    go_ret
    exact ⟨rfl, Below.refl _ _⟩
  | true =>
    go_wp2_with fail
    refine (over13 s0 s1 s3 s4 a len cap ss w' h0 h1 h3 h4 hs).mono ?_
    rintro e w ⟨⟨b, rfl⟩, rfl⟩
    cases b with
    | true =>
      go_wp2
      go_ret
      exact ⟨rfl, Below.refl _ _⟩
    | false =>
      go_wp2_with fail
      refine (clone14 a len cap ss w hs).mono ?_
      rintro e w1 ⟨a1, cap1, rfl, hs1, hn1, hb1⟩
      clear hn1 hs
      go_wp2_with fail
      refine (clone14 a1 len cap1 ss w1 hs1).mono ?_
      rintro e w2 ⟨a2, cap2, rfl, hs2, hn2, hb2⟩
      have hb : Below w.heap.size w w2 := hb1.trans (hb2.mono hb1.size)
      have hz : w.heap.size ≤ w2.heap.size := hb.size
      have hs1' := hs1.below hb2
      clear hb1 hb2 hs1
      have HN : Hid _ := hn2
      clear hn2
      go_wp2_with fail
      refine (new15 s0 s1 s3 s4 a1 len cap1 t5 t6 w2).mono ?_
      rintro e w3 ⟨rfl, hw3⟩
      have hbb : Below w2.heap.size w2 w3 := by rw [hw3]; exact (Below.refl _ _).alloc (Nat.le_refl _) _
      have hb3 : Below w.heap.size w w3 := hb.trans (hbb.mono hz)
      have hs3 := hs1'.below hbb
      have ht3 := hs2.below hbb
      have hz3 : w2.heap.size < w3.heap.size := by rw [hw3]; simp
      have q0 : w3.cell? ⟨w2.heap.size, 0, none⟩ = some (.string s0) := by rw [hw3]; simp
      have q1 : w3.cell? ⟨w2.heap.size, 1, none⟩ = some (.string s1) := by rw [hw3]; simp
      have q2 : w3.cell? ⟨w2.heap.size, 2, none⟩ = some (.slice a1 len cap1) := by rw [hw3]; simp
      have q3 : w3.cell? ⟨w2.heap.size, 3, none⟩ = some (.string s3) := by rw [hw3]; simp
      have q4 : w3.cell? ⟨w2.heap.size, 4, none⟩ = some (.string s4) := by rw [hw3]; simp
      have q5 : w3.cell? ⟨w2.heap.size, 5, none⟩ = some (.int .i64 t5) := by rw [hw3]; simp
      have q6 : w3.cell? ⟨w2.heap.size, 6, none⟩ = some (.int .i64 t6) := by rw [hw3]; simp
      have hc3 : w3.cell? ⟨w2.heap.size, 14, none⟩ = some (.chan none) := by rw [hw3]; simp
      have hf3 : w3.frozen? ⟨w2.heap.size, 14, none⟩ = false := by rw [hw3]; simp
      have HS : Hid (Strs w2 a1 len cap1 ss ∧ Strs w2 a2 len cap2 ss) := ⟨hs1', hs2⟩
      clear hw3 hb hs3 ht3 hs1' hs2
      have HB : Hid (Below w2.heap.size w2 w3) := hbb
      clear hbb
      generalize hg1 : w2.heap.size = g1 at *
      have HG : Hid (w2.heap.size = g1) := hg1
      clear hg1
      go_wp2_with fail
      refine (first16 g1 w3 hz3 hc3 hf3).mono ?_
      rintro e w5 ⟨rfl, r5⟩
      have hb5 : Below w.heap.size w w5 := hb3.trans (r5.below _ hz)
      have HB5 : Hid (Below g1 w2 w5) := HB.out.trans (r5.below _ (Nat.le_refl _))
      have hc5 := r5.here
      have p0 := (r5.other g1 0 hz3 (by omega)).trans q0
      have p1 := (r5.other g1 1 hz3 (by omega)).trans q1
      have p2 := (r5.other g1 2 hz3 (by omega)).trans q2
      have p3 := (r5.other g1 3 hz3 (by omega)).trans q3
      have p4 := (r5.other g1 4 hz3 (by omega)).trans q4
      have p5 := (r5.other g1 5 hz3 (by omega)).trans q5
      have p6 := (r5.other g1 6 hz3 (by omega)).trans q6
      have hch := r5.chan
      have HZ : Hid (g1 < w5.heap.size) := by have := r5.size; show g1 < w5.heap.size; omega
      clear hb3 hc3 hf3 r5 q0 q1 q2 q3 q4 q5 q6 HB hz3
      generalize w3.heap.size = n1 at *
      have hlc := fun ty => len_chan w5 n1 ty hch
      have hcc := fun ty => cap_chan w5 n1 ty hch
      go_wp2_with fail
      refine (first16_has g1 n1 w5 hc5).mono ?_
      rintro e w7 ⟨rfl, hw7⟩
      subst hw7
      go_wp2_with fail
      refine (ran17 g1 _ w7 hc5).mono ?_
      rintro e w8 ⟨rfl, hw8⟩
      subst hw8
      go_wp2_with fail
      have hB : Below w2.heap.size w2 w8 := by rw [HG.out]; exact HB5.out
      have hsz8 : g1 < w8.heap.size := HZ.out
      refine (same18 a1 a2 len cap1 cap2 ss w8 (HS.out.1.below hB) (HS.out.2.below hB) HN.out).mono ?_
      rintro e w9 ⟨rfl, hb9⟩
      have hb10 : Below w.heap.size w w9 := hb5.trans (hb9.mono (by omega))
      have o5 := (hb9.cell (p := ⟨g1, 5, none⟩) hsz8).trans p5
      have o6 := (hb9.cell (p := ⟨g1, 6, none⟩) hsz8).trans p6
      clear hB hb9 hb5 HS HN HG HB5
      go_wp2
      go_ret
      exact ⟨rfl, hb10⟩

theorem own : ownKnob Try.prog.godebug = none := by kernel_rfl
theorem laidOut : laidOutB Try.prog = true := by kernel_rfl

/-! ### THE ROW's STEP -/
set_option maxRecDepth 100000 in
theorem lifted (os : Os) (started : os.Started) (H : Type) (enc : TypeId × Value → H) :
    ReturnsInHanded {} Try.checked os 5 .any (Rows.fnFirstRunMadeOnceKeptSpec.pre6 enc Try.prog Try.f5 Rows.fnFirstRunMadeOnceKeptRow.domain false) (Rows.fnFirstRunMadeOnceKeptSpec.post enc Try.prog Try.f5 false true false false) := by
  refine returnsInHanded_of_change_sized (C := Try.checked) own started (by kernel_rfl) Try.func5
    (ChangeSpec.witness6 (enc := enc) (C := Try.checked) false ⟨#[], #[.string ByteArray.empty, .string ByteArray.empty, .slice none 0 0, .string ByteArray.empty, .string ByteArray.empty, .int .i64 0, .int .i64 0], []⟩ 8 (by kernel_rfl) (by kernel_rfl) (by kernel_rfl) (by kernel_rfl)) ?_
  intro W base args ds gs before hval0 hW _ hsz0 _
  have hsz : (DataW.weightsEach Try.prog (Try.f5.params.toList ++ Rows.fnFirstRunMadeOnceKeptSpec.plain.varTypes Try.prog) (ds ++ gs)).all (· ≤ reachBytes) = true := hsz0
  clear hsz0
  have hval : ∀ (j : Nat) t v, Try.f5.params[j]? = some t → args[j]? = some v → Value.okWide Try.prog W .any base t v := hval0
  have hW' := hW
  obtain ⟨p, q, hA0, hV, rfl, hfz, hnd⟩ := hW
  have hA : DataW.TrodAll enc Try.prog W 0 (fun _ => true) true Try.f5.params.toList args.toList ds p := hA0
  rw [Try.params5] at hA hval hsz
  obtain ⟨v0, vs0, d0, ds0, p0, q0, hargs, rfl, rfl, h0, r0⟩ := trodAll_cons hA
  obtain ⟨v1, vs1, d1, ds1, p1, q1, rfl, rfl, rfl, h1, r1⟩ := trodAll_cons r0
  obtain ⟨v2, vs2, d2, ds2, p2, q2, rfl, rfl, rfl, h2, r2⟩ := trodAll_cons r1
  obtain ⟨v3, vs3, d3, ds3, p3, q3, rfl, rfl, rfl, h3, r3⟩ := trodAll_cons r2
  obtain ⟨v4, vs4, d4, ds4, p4, q4, rfl, rfl, rfl, h4, r4⟩ := trodAll_cons r3
  obtain ⟨v5, vs5, d5, ds5, p5, q5, rfl, rfl, rfl, h5, r5⟩ := trodAll_cons r4
  obtain ⟨v6, vs6, d6, ds6, p6, q6, rfl, rfl, rfl, h6, r6⟩ := trodAll_cons r5
  obtain ⟨rfl, rfl, rfl⟩ := trodAll_nil r6
  obtain rfl : args = #[v0, v1, v2, v3, v4, v5, v6] := by cases args; simp_all
  obtain ⟨rfl, rfl⟩ := trodVars_none hV
  obtain ⟨s0, rfl, rfl, rfl, w0⟩ := open_string Try.underlying9 (hval 0 9 v0 rfl rfl) h0
  obtain ⟨s1, rfl, rfl, rfl, w1⟩ := open_string Try.underlying9 (hval 1 9 v1 rfl rfl) h1
  obtain ⟨a2, len2, cap2, rfl⟩ := okWide_slice Try.underlying25 (hval 2 25 v2 rfl rfl)
  obtain ⟨s3, rfl, rfl, rfl, w3⟩ := open_string Try.underlying9 (hval 3 9 v3 rfl rfl) h3
  obtain ⟨s4, rfl, rfl, rfl, w4⟩ := open_string Try.underlying9 (hval 4 9 v4 rfl rfl) h4
  obtain ⟨a5, rfl, rfl, rfl, w5⟩ := open_int Try.underlying2 (hval 5 2 v5 rfl rfl) h5
  obtain ⟨a6, rfl, rfl, rfl, w6⟩ := open_int Try.underlying2 (hval 6 2 v6 rfl rfl) h6
  have k2 := h2
  have lt2 : ∀ x ∈ p2, x.block < W.heap.size := by obtain ⟨m, hm⟩ := k2; exact DataW.trod_lt m _ _ _ hm
  obtain ⟨ss, hs⟩ : ∃ ss, Strs W a2 len2 cap2 ss := by
    obtain ⟨fuel, hf⟩ := h2
    rcases open_strings Try.underlying25 Try.underlying9 (by kernel_rfl) hf with ⟨hcs, _⟩ | ⟨x, l, c, ss, hcs, _, hl, hm, hz, hx, hcell, hws⟩
    · simp [Value.cells] at hcs
      obtain ⟨rfl, rfl, rfl⟩ := hcs
      exact ⟨[], strs_nil W⟩
    · simp [Value.cells] at hcs
      obtain ⟨rfl, rfl, rfl⟩ := hcs
      simp only [Prod.mk.injEq] at hx
      obtain ⟨rfl, rfl⟩ := hx
      simp only [if_true] at hz
      have hreach : cap2 * 16 ≤ 140737488351232 := by
        have := sized_slice hsz (j := 2) (t := 25) (e := 9) rfl rfl Try.underlying25
        rw [show Try.prog.bytesOf 9 = 16 from by kernel_rfl] at this
        simp only [strs, List.length_map, List.length_take, List.length_drop, reachBytes] at this
        omega
      exact ⟨ss.take len2, strs_of hl hreach hz hcell hws (fun b off e k hk => lt2 (.cell b (off + k)) (by subst e; exact MemPlace.mem_row.2 ⟨k, by omega, by simp⟩))⟩
  clear hA0 hval0
  refine (walk s0 s1 s3 s4 a2 len2 cap2 ss a5 a6 W w0 w1 w3 w4 hs).mono fun e W' ⟨he, bel⟩ => ?_
  subst he
  exact ⟨_, rfl, _, _, _, [], _, [], hW', trodAll_mk1 (shut_bool Try.underlying4 _), (trodAll_cons_mk (shut_string Try.underlying9 w0) (trodAll_cons_mk (shut_string Try.underlying9 w1) (trodAll_cons_mk (Below.trod laidOut (by kernel_rfl) (of_decide_eq_true (by kernel_rfl)) k2 bel lt2) (trodAll_cons_mk (shut_string Try.underlying9 w3) (trodAll_cons_mk (shut_string Try.underlying9 w4) (trodAll_cons_mk (shut_int Try.underlying2 w5) (trodAll_cons_mk (shut_int Try.underlying2 w6) trodAll_mk0))))))), rfl, bel.frame _, fun h => by cases h⟩

theorem over : Rows.fnFirstRunMadeOnceKeptRow.holds Try.pinned (OpenSpec.ofChange Rows.fnFirstRunMadeOnceKeptSpec) :=
  OpenClaim.holds_of_wide 5 Try.f5 rfl rfl rfl rfl rfl rfl rfl ⟨rfl, rfl, rfl, rfl, rfl⟩ rfl rfl rfl rfl rfl (by kernel_rfl) Try.func5 (by kernel_rfl)
    (of_decide_eq_true (by kernel_rfl)) (by unfold Func.isWrapper; first | (rw [if_pos (by decide +kernel)]; kernel_rfl) | (rw [if_neg (by decide +kernel)]; exact ⟨rfl, rfl⟩))
    (fun os started H enc _ => lifted os started H enc)

/-- THE STATEMENT -/
theorem proved : Rows.FnFirstRunMadeOnceKeptSaid :=
  over
end Go.Proofs.Qxb6615667a.fnFirstRunMadeOnceKept
