import Derived.Test.Qxb6615667aNotesB
import Derived.SizedLaws
import Derived.ChangeOld
import Derived.Below
namespace Go.Proofs.Qxb6615667a.fnFirstRunOwnPerHealth
open Go.ChangeShapes Go.WideShapes Go.ChangeAt Go.RowKit Notes
open Go.ChangeMaps (open_string shut_string)
set_option linter.unusedVariables false

set_option maxHeartbeats 1000000 in
set_option maxRecDepth 100000 in
theorem walk (s0 s1 s3 s4 : ByteArray) (a : Option Addr) (len cap : Nat) (ss : List ByteArray) (t5 t6 : Int) (w : World) (h0 : s0.size ≤ maxLen) (h1 : s1.size ≤ maxLen) (h3 : s3.size ≤ maxLen) (h4 : s4.size ≤ maxLen) (hs : Strs w a len cap ss) :
    Calls Try.prog 6 #[.string s0, .string s1, .slice a len cap, .string s3, .string s4, .int .i64 t5, .int .i64 t6] w fun e w' => e = .returned (.bool true) ∧ Below w.heap.size w w' := by
  have hq := eql_chan
  have hn := neq_chan
  go_enter Try.func6, Try.ntmps6
  go_wp2_with fail
  refine (bytes19 s0 s1 s3 s4 a len cap ss t5 t6 w h0 h1 h3 h4 hs).mono ?_
  rintro e w' ⟨⟨b, rfl⟩, rfl⟩
  cases b with
  | false =>
    go_wp2
    go_ret
    exact ⟨rfl, Below.refl _ _⟩
  | true =>
    go_wp2_with fail
    refine (over13 s0 s1 s3 s4 a len cap ss w' h0 h1 h3 h4 hs).mono ?_
    rintro e w ⟨⟨b, rfl⟩, rfl⟩
    cases b with
    | true =>
      go_wp2
      go_ret
      exact ⟨rfl, Below.refl _ _⟩
    | false =>
      go_wp2_with fail
      refine (clone14 a len cap ss w hs).mono ?_
      rintro e w1 ⟨a1, cap1, rfl, hs1, hn1, hb1⟩
      clear hn1 hs
      go_wp2_with fail
      refine (clone14 a1 len cap1 ss w1 hs1).mono ?_
      rintro e w2 ⟨a2, cap2, rfl, hs2, hn2, hb2⟩
      clear hn2 hs1 hs2
      have hb : Below w.heap.size w w2 := hb1.trans (hb2.mono hb1.size)
      have hz : w.heap.size ≤ w2.heap.size := hb.size
      clear hb1 hb2
      go_wp2_with fail
      refine (new15 s0 s1 s3 s4 a1 len cap1 t5 t6 w2).mono ?_
      rintro e w3 ⟨rfl, hw3⟩
      have hb3 : Below w.heap.size w w3 := by rw [hw3]; exact hb.alloc hz _
      have hz3 : w3.heap.size = w2.heap.size + 1 := by rw [hw3]; simp
      have hc3 : w3.cell? ⟨w2.heap.size, 14, none⟩ = some (.chan none) := by rw [hw3]; simp
      have hf3 : w3.frozen? ⟨w2.heap.size, 14, none⟩ = false := by rw [hw3]; simp
      clear hw3 hb
      go_wp2_with fail
      refine (new15 s0 s1 s3 s4 a2 len cap2 t5 t6 w3).mono ?_
      rintro e w4 ⟨rfl, hw4⟩
      have hb4 : Below w.heap.size w w4 := by rw [hw4]; exact hb3.alloc (by omega) _
      have hz4 : w4.heap.size = w2.heap.size + 2 := by rw [hw4]; simp; omega
      have hc4 : w4.cell? ⟨w2.heap.size, 14, none⟩ = some (.chan none) := by rw [hw4, World.cell?_alloc_lt _ _ _ (by show w2.heap.size < _; omega)]; exact hc3
      have hf4 : w4.frozen? ⟨w2.heap.size, 14, none⟩ = false := by rw [hw4, World.frozen?_alloc_old _ _ _ (by show w2.heap.size ≠ _; omega)]; exact hf3
      have hd4 : w4.cell? ⟨w3.heap.size, 14, none⟩ = some (.chan none) := by rw [hw4]; simp
      have he4 : w4.frozen? ⟨w3.heap.size, 14, none⟩ = false := by rw [hw4]; simp
      clear hw4 hb3 hc3 hf3
      generalize w2.heap.size = g1 at *
      generalize w3.heap.size = g2 at *
      have l1 : g1 < g2 := by omega
      have l2 : g2 < w4.heap.size := by omega
      clear hz3 hz4
      go_wp2_with fail
      refine (first16 g1 w4 (by omega) hc4 hf4).mono ?_
      rintro e w5 ⟨rfl, r5⟩
      have hb5 : Below w.heap.size w w5 := hb4.trans (r5.below _ hz)
      have hc5 := r5.here
      have hd5 : w5.cell? ⟨g2, 14, none⟩ = some (.chan none) := (r5.other g2 14 l2 (by omega)).trans hd4
      have he5 : w5.frozen? ⟨g2, 14, none⟩ = false := (r5.frozen g2 14 l2).trans he4
      have l5 : w4.heap.size < w5.heap.size := by have := r5.size; omega
      clear hb4 hc4 hf4 hd4 he4 r5
      generalize w4.heap.size = n1 at *
      go_wp2_with fail
      refine (first16 g2 w5 (by omega) hd5 he5).mono ?_
      rintro e w6 ⟨rfl, r6⟩
      have hb6 : Below w.heap.size w w6 := hb5.trans (r6.below _ (by omega))
      have hc6 : w6.cell? ⟨g1, 14, none⟩ = some (.chan (some n1)) := (r6.other g1 14 (by omega) (by omega)).trans hc5
      have hd6 := r6.here
      clear hb5 hc5 hd5 he5 r6
      generalize w5.heap.size = n2 at *
      have hne : (n1 == n2) = false := beq_eq_false_iff_ne.2 (by omega)
      go_wp2_with fail
      refine (first16_has g1 n1 w6 hc6).mono ?_
      rintro e w7 ⟨rfl, hw7⟩
      subst hw7
      go_wp2_with fail
      refine (ran17 g1 _ w7 hc6).mono ?_
      rintro e w8 ⟨rfl, hw8⟩
      subst hw8
      go_wp2_with fail
      refine (ran17 g2 _ w8 hd6).mono ?_
      rintro e w9 ⟨rfl, hw9⟩
      subst hw9
      go_wp2
      go_ret
      exact ⟨rfl, hb6⟩

theorem own : ownKnob Try.prog.godebug = none := by kernel_rfl
theorem laidOut : laidOutB Try.prog = true := by kernel_rfl

/-! ### THE ROW's STEP -/
set_option maxRecDepth 100000 in
theorem lifted (os : Os) (started : os.Started) (H : Type) (enc : TypeId × Value → H) :
    ReturnsInHanded {} Try.checked os 6 .any (Rows.fnFirstRunOwnPerHealthSpec.pre6 enc Try.prog Try.f6 Rows.fnFirstRunOwnPerHealthRow.domain false) (Rows.fnFirstRunOwnPerHealthSpec.post enc Try.prog Try.f6 false true false false) := by
  refine returnsInHanded_of_change_sized (C := Try.checked) own started (by kernel_rfl) Try.func6
    (ChangeSpec.witness6 (enc := enc) (C := Try.checked) false ⟨#[], #[.string ByteArray.empty, .string ByteArray.empty, .slice none 0 0, .string ByteArray.empty, .string ByteArray.empty, .int .i64 0, .int .i64 0], []⟩ 8 (by kernel_rfl) (by kernel_rfl) (by kernel_rfl) (by kernel_rfl)) ?_
  intro W base args ds gs before hval0 hW _ hsz0 _
  have hsz : (DataW.weightsEach Try.prog (Try.f6.params.toList ++ Rows.fnFirstRunOwnPerHealthSpec.plain.varTypes Try.prog) (ds ++ gs)).all (· ≤ reachBytes) = true := hsz0
  clear hsz0
  have hval : ∀ (j : Nat) t v, Try.f6.params[j]? = some t → args[j]? = some v → Value.okWide Try.prog W .any base t v := hval0
  have hW' := hW
  obtain ⟨p, q, hA0, hV, rfl, hfz, hnd⟩ := hW
  have hA : DataW.TrodAll enc Try.prog W 0 (fun _ => true) true Try.f6.params.toList args.toList ds p := hA0
  rw [Try.params6] at hA hval hsz
  obtain ⟨v0, vs0, d0, ds0, p0, q0, hargs, rfl, rfl, h0, r0⟩ := trodAll_cons hA
  obtain ⟨v1, vs1, d1, ds1, p1, q1, rfl, rfl, rfl, h1, r1⟩ := trodAll_cons r0
  obtain ⟨v2, vs2, d2, ds2, p2, q2, rfl, rfl, rfl, h2, r2⟩ := trodAll_cons r1
  obtain ⟨v3, vs3, d3, ds3, p3, q3, rfl, rfl, rfl, h3, r3⟩ := trodAll_cons r2
  obtain ⟨v4, vs4, d4, ds4, p4, q4, rfl, rfl, rfl, h4, r4⟩ := trodAll_cons r3
  obtain ⟨v5, vs5, d5, ds5, p5, q5, rfl, rfl, rfl, h5, r5⟩ := trodAll_cons r4
  obtain ⟨v6, vs6, d6, ds6, p6, q6, rfl, rfl, rfl, h6, r6⟩ := trodAll_cons r5
  obtain ⟨rfl, rfl, rfl⟩ := trodAll_nil r6
  obtain rfl : args = #[v0, v1, v2, v3, v4, v5, v6] := by cases args; simp_all
  obtain ⟨rfl, rfl⟩ := trodVars_none hV
  obtain ⟨s0, rfl, rfl, rfl, w0⟩ := open_string Try.underlying9 (hval 0 9 v0 rfl rfl) h0
  obtain ⟨s1, rfl, rfl, rfl, w1⟩ := open_string Try.underlying9 (hval 1 9 v1 rfl rfl) h1
  obtain ⟨a2, len2, cap2, rfl⟩ := okWide_slice Try.underlying25 (hval 2 25 v2 rfl rfl)
  obtain ⟨s3, rfl, rfl, rfl, w3⟩ := open_string Try.underlying9 (hval 3 9 v3 rfl rfl) h3
  obtain ⟨s4, rfl, rfl, rfl, w4⟩ := open_string Try.underlying9 (hval 4 9 v4 rfl rfl) h4
  obtain ⟨a5, rfl, rfl, rfl, w5⟩ := open_int Try.underlying2 (hval 5 2 v5 rfl rfl) h5
  obtain ⟨a6, rfl, rfl, rfl, w6⟩ := open_int Try.underlying2 (hval 6 2 v6 rfl rfl) h6
  have k2 := h2
  have lt2 : ∀ x ∈ p2, x.block < W.heap.size := by obtain ⟨m, hm⟩ := k2; exact DataW.trod_lt m _ _ _ hm
  obtain ⟨ss, hs⟩ : ∃ ss, Strs W a2 len2 cap2 ss := by
    obtain ⟨fuel, hf⟩ := h2
    rcases open_strings Try.underlying25 Try.underlying9 (by kernel_rfl) hf with ⟨hcs, _⟩ | ⟨x, l, c, ss, hcs, _, hl, hm, hz, hx, hcell, hws⟩
    · simp [Value.cells] at hcs
      obtain ⟨rfl, rfl, rfl⟩ := hcs
      exact ⟨[], strs_nil W⟩
    · simp [Value.cells] at hcs
      obtain ⟨rfl, rfl, rfl⟩ := hcs
      simp only [Prod.mk.injEq] at hx
      obtain ⟨rfl, rfl⟩ := hx
      simp only [if_true] at hz
      have hreach : cap2 * 16 ≤ 140737488351232 := by
        have := sized_slice hsz (j := 2) (t := 25) (e := 9) rfl rfl Try.underlying25
        rw [show Try.prog.bytesOf 9 = 16 from by kernel_rfl] at this
        simp only [strs, List.length_map, List.length_take, List.length_drop, reachBytes] at this
        omega
      exact ⟨ss.take len2, strs_of hl hreach hz hcell hws (fun b off e k hk => lt2 (.cell b (off + k)) (by subst e; exact MemPlace.mem_row.2 ⟨k, by omega, by simp⟩))⟩
  clear hA0 hval0
  refine (walk s0 s1 s3 s4 a2 len2 cap2 ss a5 a6 W w0 w1 w3 w4 hs).mono fun e W' ⟨he, bel⟩ => ?_
  subst he
  exact ⟨_, rfl, _, _, _, [], _, [], hW', trodAll_mk1 (shut_bool Try.underlying4 _), (trodAll_cons_mk (shut_string Try.underlying9 w0) (trodAll_cons_mk (shut_string Try.underlying9 w1) (trodAll_cons_mk (Below.trod laidOut (by kernel_rfl) (of_decide_eq_true (by kernel_rfl)) k2 bel lt2) (trodAll_cons_mk (shut_string Try.underlying9 w3) (trodAll_cons_mk (shut_string Try.underlying9 w4) (trodAll_cons_mk (shut_int Try.underlying2 w5) (trodAll_cons_mk (shut_int Try.underlying2 w6) trodAll_mk0))))))), rfl, bel.frame _, fun h => by cases h⟩

theorem over : Rows.fnFirstRunOwnPerHealthRow.holds Try.pinned (OpenSpec.ofChange Rows.fnFirstRunOwnPerHealthSpec) :=
  OpenClaim.holds_of_wide 6 Try.f6 rfl rfl rfl rfl rfl rfl rfl ⟨rfl, rfl, rfl, rfl, rfl⟩ rfl rfl rfl rfl rfl (by kernel_rfl) Try.func6 (by kernel_rfl)
    (of_decide_eq_true (by kernel_rfl)) (by unfold Func.isWrapper; first | (rw [if_pos (by decide +kernel)]; kernel_rfl) | (rw [if_neg (by decide +kernel)]; exact ⟨rfl, rfl⟩))
    (fun os started H enc _ => lifted os started H enc)

/-- THE STATEMENT -/
theorem proved : Rows.FnFirstRunOwnPerHealthSaid :=
  over
end Go.Proofs.Qxb6615667a.fnFirstRunOwnPerHealth
