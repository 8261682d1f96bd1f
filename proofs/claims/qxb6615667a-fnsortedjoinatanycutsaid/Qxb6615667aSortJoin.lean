import Derived.Test.Qxb6615667aSortLaw7
namespace Go.Proofs.Qxb6615667a.Srt
open Go.ChangeShapes Go.WideShapes Go.ChangeAt Go.RowKit Plain

set_option maxHeartbeats 2000000 in
set_option maxRecDepth 100000 in
theorem bytes26 (a b : Option Addr) (la ca lb cb : Nat) (d e : List Fd) (w : World) (hs : Finds w a la ca d) (ht : Finds w b lb cb e) :
    Calls Try.prog 26 #[.slice a la ca, .slice b lb cb] w fun e w' => SomeBool e ∧ w' = w := by
  have hl := hs.le
  have hr := hs.reach
  have hl2 := ht.le
  have hr2 := ht.reach
  go_enter Try.func26, Try.ntmps26
  go_wp2
  all_goals first | (go_ret; exact ⟨⟨_, rfl⟩, rfl⟩) | skip
  go_loop [5, 6] (fun n i => ∃ (k : Nat) (m : Int), k ≤ la ∧ 0 ≤ m ∧ m ≤ 1048576 ∧ i = .int .i64 k ∧ n = .int .i64 m) (fun _ i => la - (intOf i).toNat)
  case atStart => exact ⟨0, _, Nat.zero_le _, by omega, by omega, rfl, rfl⟩
  case round =>
    obtain ⟨k, m, hk, hm0, hm1, rfl, rfl⟩ := hrel
    by_cases hlt : k < la
    · obtain ⟨b, off, rfl, hb, c0, c1, c2⟩ := hs.cells k hlt
      obtain ⟨o1, o2, o3⟩ := hs.one hlt
      clear hs ht
      generalize (d[k]?.getD z0).1 = f1 at *
      generalize (d[k]?.getD z0).2.1 = f2 at *
      generalize (d[k]?.getD z0).2.2 = f3 at *
      go_wp2
      all_goals first | (go_ret; exact ⟨⟨_, rfl⟩, rfl⟩) | skip
      go_round
      case rel => exact ⟨k + 1, _, by omega, by omega, by omega, by go_num, rfl⟩
      case measure => simp [intOf]; omega
    · go_wp2
      all_goals first | (go_ret; exact ⟨⟨_, rfl⟩, rfl⟩) | skip
      go_loop [5, 7] (fun n i => ∃ (k : Nat) (m : Int), k ≤ lb ∧ 0 ≤ m ∧ m ≤ 1048576 ∧ i = .int .i64 k ∧ n = .int .i64 m) (fun _ i => lb - (intOf i).toNat)
      case atStart => exact ⟨0, _, Nat.zero_le _, by omega, by omega, rfl, rfl⟩
      case round =>
        obtain ⟨k2, m2, hk2, hm2, hm3, rfl, rfl⟩ := hrel
        by_cases hlt2 : k2 < lb
        · obtain ⟨b2, off2, rfl, hb2, c0, c1, c2⟩ := ht.cells k2 hlt2
          obtain ⟨o1, o2, o3⟩ := ht.one hlt2
          clear hs ht
          generalize (e[k2]?.getD z0).1 = f1 at *
          generalize (e[k2]?.getD z0).2.1 = f2 at *
          generalize (e[k2]?.getD z0).2.2 = f3 at *
          go_wp2
          all_goals first | (go_ret; exact ⟨⟨_, rfl⟩, rfl⟩) | skip
          go_round
          case rel => exact ⟨k2 + 1, _, by omega, by omega, by omega, by go_num, rfl⟩
          case measure => simp [intOf]; omega
        · go_wp2
          all_goals (go_ret; exact ⟨⟨_, rfl⟩, rfl⟩)

set_option maxHeartbeats 2000000 in
/-- countMust: how many are of the first class. -/
theorem count27 (a : Option Addr) (len cap : Nat) (d : List Fd) (w : World) (hs : Finds w a len cap d) :
    Calls Try.prog 27 #[.slice a len cap] w fun e w' => e = .returned (.int .i64 (c1 d len)) ∧ w' = w := by
  have hl := hs.le
  have hr := hs.reach
  have hn := hs.num
  go_enter Try.func27, Try.ntmps27
  go_wp2
  go_loop [3, 4] (fun n i => ∃ k : Nat, k ≤ len ∧ i = .int .i64 k ∧ n = .int .i64 (c1 d k)) (fun _ i => len - (intOf i).toNat)
  case atStart => exact ⟨0, Nat.zero_le _, rfl, rfl⟩
  case round =>
    obtain ⟨k, hk, rfl, rfl⟩ := hrel
    have hc := c1_le d k
    by_cases hlt : k < len
    · obtain ⟨b, off, rfl, hb, q0, _, _⟩ := hs.cells k hlt
      have e : d[k]? = some d[k] := List.getElem?_eq_getElem (by omega)
      rw [e] at q0
      simp only [Option.getD_some] at q0
      clear hs
      cases hm : key d[k] with
      | true =>
        have HC : Hid (c1 d (k + 1) = c1 d k + 1) := c1_yes d k (by omega) hm
        have hmb : mustB d[k].1 = true := hm
        clear hm e
        generalize d[k] = f at *
        generalize c1 d k = x at *
        go_wp2_with (go_at_call 24; refine (must24 _ _).mono ?_; rintro e w' ⟨rfl, rfl⟩)
        go_round
        case rel => exact ⟨k + 1, by omega, by go_num, by rw [HC.out]; go_num⟩
        case measure => simp [intOf]; omega
      | false =>
        have HC : Hid (c1 d (k + 1) = c1 d k) := c1_no d k (by omega) hm
        have hmb : mustB d[k].1 = false := hm
        clear hm e
        generalize d[k] = f at *
        generalize c1 d k = x at *
        go_wp2_with (go_at_call 24; refine (must24 _ _).mono ?_; rintro e w' ⟨rfl, rfl⟩)
        go_round
        case rel => exact ⟨k + 1, by omega, by go_num, by rw [HC.out]⟩
        case measure => simp [intOf]; omega
    · obtain rfl : k = len := by omega
      go_wp2
      go_ret
      exact ⟨rfl, rfl⟩

/-! ### THE PLAIN LAW: the join at any cut -/
theorem part_join (d e : List Fd) : part (d ++ e) = d.filter key ++ (e.filter key ++ (d.filter (fun x => !key x) ++ e.filter (fun x => !key x))) := by
  unfold part; simp [List.filter_append]
theorem len1 (d : List Fd) (n : Nat) (hn : d.length = n) : (d.filter key).length = c1 d n := by unfold c1; rw [← hn, List.take_length]
theorem len2 (d : List Fd) (n : Nat) (hn : d.length = n) : (d.filter (fun x => !key x)).length + c1 d n = n := by
  have := length_two key d
  rw [len1 d n hn] at this; omega
theorem join_a1 (d e : List Fd) (n j : Nat) (hn : d.length = n) (h : j < c1 d n) : (part (d ++ e))[j]? = (part d)[j]? := by
  have l := len1 d n hn
  rw [part_join]; unfold part
  rw [List.getElem?_append_left (by omega), List.getElem?_append_left (by omega)]
theorem join_b1 (d e : List Fd) (n m j : Nat) (hn : d.length = n) (hm : e.length = m) (h : j < c1 e m) : (part (d ++ e))[c1 d n + j]? = (part e)[j]? := by
  have l := len1 d n hn
  have l' := len1 e m hm
  rw [part_join]; unfold part
  rw [List.getElem?_append_right (by omega), List.getElem?_append_left (by omega), List.getElem?_append_left (by omega)]
  congr 1; omega
theorem join_a2 (d e : List Fd) (n m j : Nat) (hn : d.length = n) (hm : e.length = m) (h : c1 d n ≤ j) (h2 : j < n) : (part (d ++ e))[c1 e m + j]? = (part d)[j]? := by
  have l := len1 d n hn
  have l' := len1 e m hm
  have l2 := len2 d n hn
  rw [part_join]; unfold part
  rw [List.getElem?_append_right (by omega), List.getElem?_append_right (by omega), List.getElem?_append_left (by omega), List.getElem?_append_right (by omega)]
  congr 1; omega
theorem join_b2 (d e : List Fd) (n m j : Nat) (hn : d.length = n) (hm : e.length = m) (h : c1 e m ≤ j) : (part (d ++ e))[n + j]? = (part e)[j]? := by
  have l := len1 d n hn
  have l' := len1 e m hm
  have l2 := len2 d n hn
  rw [part_join]; unfold part
  rw [List.getElem?_append_right (by omega), List.getElem?_append_right (by omega), List.getElem?_append_right (by omega), List.getElem?_append_right (by omega)]
  congr 1; omega
theorem part_key (d : List Fd) (j : Nat) (f : Fd) (h : (part d)[j]? = some f) : key f = decide (j < (d.filter key).length) := by
  unfold part at h
  by_cases c : j < (d.filter key).length
  · rw [List.getElem?_append_left c] at h
    have := List.mem_of_getElem? h
    rw [decide_eq_true c]
    exact (List.mem_filter.1 this).2
  · rw [List.getElem?_append_right (by omega)] at h
    have := List.mem_of_getElem? h
    rw [decide_eq_false c]
    have := (List.mem_filter.1 this).2
    simpa using this
theorem join_key (d e : List Fd) (n m j : Nat) (hn : d.length = n) (hm : e.length = m) (f : Fd) (h : (part (d ++ e))[j]? = some f) : mustB f.1 = decide (j < c1 d n + c1 e m) := by
  have := part_key (d ++ e) j f h
  rw [List.filter_append, List.length_append, len1 d n hn, len1 e m hm] at this
  exact this

/-- Two findings that are one: not unequal. -/
theorem neq65 (f : Fd) (w : World) : (binOp .neq 65 (.agg #[.string f.1, .string f.2.1, .string f.2.2]) (.agg #[.string f.1, .string f.2.1, .string f.2.2])).run Try.prog w = .ok (.bool false) w := by
  have h1 : Try.prog.underlying 65 = some (.struct (Try.prog.fieldsOf 65)) := by kernel_rfl
  have h2 : Try.prog.stoodInHeld 65 = false := by kernel_rfl
  have h3 : (Try.prog.fieldsOf 65).toList = [⟨"Rule", 63, 0, false, "", "", 0⟩, ⟨"Pointer", 9, 1, false, "", "", 16⟩, ⟨"Message", 9, 2, false, "", "", 32⟩] := by kernel_rfl
  rw [run_neq_struct, run_equalIn_agg w 9999 65 _ _ h1 h2, h3]
  simp [Op.eqFields, go_sem]
end Go.Proofs.Qxb6615667a.Srt
