import Derived.Test.Qxb6615667aSortTo
import Derived.Deep.RegionWith
namespace Go.Proofs.Qxb6615667a.Srt
open Go.ChangeShapes Go.WideShapes Go.ChangeAt Go.RowKit Plain

/-! ### THE PLAIN LAW: where each finding lies in the stable order -/
/-- How many of the first i are of the first class; of the second. -/
def c1 (d : List Fd) (i : Nat) : Nat := ((d.take i).filter key).length
def c2 (d : List Fd) (i : Nat) : Nat := ((d.take i).filter (fun x => !key x)).length
theorem take_succ (d : List Fd) (i : Nat) (hi : i < d.length) : d.take (i + 1) = d.take i ++ [d[i]] := List.take_succ_eq_append_getElem hi
theorem c1_yes (d : List Fd) (i : Nat) (hi : i < d.length) (h : key d[i] = true) : c1 d (i + 1) = c1 d i + 1 := by unfold c1; rw [take_succ d i hi, List.filter_append, List.filter_cons_of_pos h, List.filter_nil, List.length_append]; rfl
theorem c1_no (d : List Fd) (i : Nat) (hi : i < d.length) (h : key d[i] = false) : c1 d (i + 1) = c1 d i := by unfold c1; rw [take_succ d i hi, List.filter_append, List.filter_cons_of_neg (by simp [h]), List.filter_nil, List.length_append]; rfl
theorem c2_yes (d : List Fd) (i : Nat) (hi : i < d.length) (h : key d[i] = false) : c2 d (i + 1) = c2 d i + 1 := by unfold c2; rw [take_succ d i hi, List.filter_append, List.filter_cons_of_pos (by simp [h]), List.filter_nil, List.length_append]; rfl
theorem c2_no (d : List Fd) (i : Nat) (hi : i < d.length) (h : key d[i] = true) : c2 d (i + 1) = c2 d i := by unfold c2; rw [take_succ d i hi, List.filter_append, List.filter_cons_of_neg (by simp [h]), List.filter_nil, List.length_append]; rfl
theorem c1_le (d : List Fd) (i : Nat) : c1 d i ≤ i := by unfold c1; have := List.length_filter_le key (d.take i); simp at this; omega
theorem c2_le (d : List Fd) (i : Nat) : c2 d i ≤ i := by unfold c2; have := List.length_filter_le (fun x => !key x) (d.take i); simp at this; omega
theorem c12 (d : List Fd) : c1 d d.length + c2 d d.length = d.length := by unfold c1 c2; rw [List.take_length]; exact length_two key d
theorem split_at (d : List Fd) (i : Nat) (hi : i < d.length) : d = d.take i ++ (d[i] :: d.drop (i + 1)) := by
  conv => lhs; rw [← List.take_append_drop i d, List.drop_eq_getElem_cons hi]
theorem first_at (d : List Fd) (i : Nat) (hi : i < d.length) (h : key d[i] = true) : (part d)[c1 d i]? = some d[i] := by
  unfold part c1
  have e : d.filter key = (d.take i).filter key ++ (d[i] :: (d.drop (i + 1)).filter key) := by
    conv => lhs; rw [split_at d i hi]
    rw [List.filter_append, List.filter_cons_of_pos h]
  rw [e, List.getElem?_append_left (by simp), List.getElem?_append_right (Nat.le_refl _)]
  simp
theorem second_at (d : List Fd) (i : Nat) (hi : i < d.length) (h : key d[i] = false) : (part d)[c1 d d.length + c2 d i]? = some d[i] := by
  unfold part c1 c2
  rw [List.take_length]
  have e : d.filter (fun x => !key x) = (d.take i).filter (fun x => !key x) ++ (d[i] :: (d.drop (i + 1)).filter (fun x => !key x)) := by
    conv => lhs; rw [split_at d i hi]
    rw [List.filter_append, List.filter_cons_of_pos (by simp [h])]
  rw [e, List.getElem?_append_right (by omega), show (d.filter key).length + ((d.take i).filter fun x => !key x).length - (d.filter key).length = ((d.take i).filter fun x => !key x).length by omega, List.getElem?_append_right (Nat.le_refl _)]
  simp
theorem second_in (d : List Fd) (i n : Nat) (hn : d.length = n) (hi : i < d.length) (h : key d[i] = false) : (part d)[c1 d n + c2 d i]? = some d[i] := by subst hn; exact second_at d i hi h

set_option maxHeartbeats 4000000 in
set_option maxRecDepth 100000 in
theorem walk7 (a : Option Addr) (len cap : Nat) (d : List Fd) (w : World) (hs : Finds w a len cap d) :
    Calls Try.prog 7 #[.slice a len cap] w fun e w' => e = .returned (.bool true) ∧ Below w.heap.size w w' := by
  have hl := hs.le
  have hr := hs.reach
  have hnum := hs.num
  go_enter Try.func7, Try.ntmps7
  go_wp2_with fail
  refine (bytes20 a len cap d w hs).mono ?_
  rintro e w' ⟨⟨b, rfl⟩, rfl⟩
  cases b with
  | false =>
    go_wp2
    go_ret
    exact ⟨rfl, Below.refl _ _⟩
  | true =>
    by_cases h1 : (65536 : Int) < (len : Int)
    · go_wp2
      go_ret
      exact ⟨rfl, Below.refl _ _⟩
    by_cases h2 : (1048576 : Int) < 48 * (len : Int)
    · go_wp2
      go_ret
      exact ⟨rfl, Below.refl _ _⟩
    go_wp2_with fail
    refine (over21 a len cap _ d w' hs).mono ?_
    rintro e w ⟨⟨tt, bb, rfl⟩, rfl⟩
    cases bb with
    | true =>
      go_wp2
      go_ret
      exact ⟨rfl, Below.refl _ _⟩
    | false =>
      go_wp2_with fail
      refine (to23 a len cap d w hs (by omega)).mono ?_
      rintro e w1 ⟨p, rfl, hF1, hb1, hbk⟩
      go_wp2_with fail
      refine (zz22 len p d w1 hF1 (by omega)).mono ?_
      rintro e w2 ⟨rfl, hF2, hFr⟩
      have hb2 : Below w.heap.size w w2 := hb1.trans (hFr.below (by have := hb1.size; omega) hb1.size)
      have hs2 : Finds w2 a len cap d := hs.below hb2
      have hz2 := hb2.size
      clear hs hF1 hFr hb1 hbk
      have hne : ((len : Int) != (len : Int)) = false := by simp
      go_wp2
      go_loopw [6, 7] (fun vk vi wr => ∃ i : Nat, i ≤ len ∧ vi = .int .i64 i ∧ vk = .int .i64 (c1 d i) ∧ Below w2.heap.size w2 wr) (fun _ vi _ => len - (intOf vi).toNat)
      case atStart => exact ⟨0, Nat.zero_le _, rfl, rfl, Below.refl _ _⟩
      case round =>
        obtain ⟨i, hi, rfl, rfl, hbl⟩ := hrel
        have hc := c1_le d i
        by_cases hlt : i < len
        · obtain ⟨b, off, rfl, hb, q0, q1, q2⟩ := hs2.cells i hlt
          have hp : ∃ blk, p = some ⟨blk, 0, none⟩ ∧ Row w2 blk (part d) := by
            rcases hF2.2 with ⟨_, h0⟩ | h
            · omega
            · exact h
          obtain ⟨blk, rfl, hR⟩ := hp
          have e : d[i]? = some d[i] := List.getElem?_eq_getElem (by omega)
          rw [e] at q0 q1 q2
          simp only [Option.getD_some] at q0 q1 q2
          have g0 := (hbl.cell (p := ⟨b, off + i * 3, none⟩) hb).trans q0
          have g1 := (hbl.cell (p := ⟨b, off + i * 3 + 1, none⟩) hb).trans q1
          have g2 := (hbl.cell (p := ⟨b, off + i * 3 + 2, none⟩) hb).trans q2
          cases hm : key d[i] with
          | true =>
            have hk : c1 d i < (part d).length := by
              have := first_at d i (by omega) hm
              exact (List.getElem?_eq_some_iff.1 this).1
            have hkl : (c1 d i : Int) < (len : Int) := by rw [part_length] at hk; omega
            have hpk := first_at d i (by omega) hm
            have r := (hR.below hbl).elem (c1 d i) hk
            rw [hpk] at r
            simp only [Option.getD_some] at r
            obtain ⟨r0, r1, r2⟩ := r
            have HC : Hid (c1 d (i + 1) = c1 d i + 1) := c1_yes d i (by omega) hm
            have hmb : mustB d[i].1 = true := hm
            clear hm hpk hk q0 q1 q2 hR hs2 e hF2
            generalize d[i] = f at *
            generalize c1 d i = k at *
            go_wp2_with (go_at_call 24; refine (must24 _ _).mono ?_; rintro e w' ⟨rfl, rfl⟩)
            go_region_with (go_at_call 25; refine (same25 f _).mono ?_; rintro e w5 ⟨rfl, hb5⟩)
            all_goals
              go_wp2
              go_roundw
              case rel => exact ⟨i + 1, by omega, by go_num, by rw [HC.out]; go_num, hbl.drew.trans (hb5.mono (by simp; exact hbl.size))⟩
              case measure => simp [intOf]; omega
          | false =>
            have HC : Hid (c1 d (i + 1) = c1 d i) := c1_no d i (by omega) hm
            have hmb : mustB d[i].1 = false := hm
            clear hm q0 q1 q2 hR hs2 e hF2
            generalize d[i] = f at *
            generalize c1 d i = k at *
            go_wp2_with (go_at_call 24; refine (must24 _ _).mono ?_; rintro e w' ⟨rfl, rfl⟩)
            go_roundw
            case rel => exact ⟨i + 1, by omega, by go_num, by rw [HC.out], hbl⟩
            case measure => simp [intOf]; omega
        · have e : i = len := by omega
          subst e
          go_wp2
          go_loopw [6, 8] (fun vk vi wr2 => ∃ j : Nat, j ≤ i ∧ vi = .int .i64 j ∧ vk = .int .i64 ((c1 d i : Int) + c2 d j) ∧ Below w2.heap.size w2 wr2) (fun _ vi _ => i - (intOf vi).toNat)
          case atStart => exact ⟨0, Nat.zero_le _, rfl, by go_num, hbl⟩
          case round =>
            obtain ⟨j, hj, rfl, rfl, hbj⟩ := hrel
            have hc2 := c2_le d j
            clear hbl
            by_cases hjt : j < i
            · obtain ⟨b, off, rfl, hb, q0, q1, q2⟩ := hs2.cells j hjt
              have hp : ∃ blk, p = some ⟨blk, 0, none⟩ ∧ Row w2 blk (part d) := by
                rcases hF2.2 with ⟨_, h0⟩ | h
                · omega
                · exact h
              obtain ⟨blk, rfl, hR⟩ := hp
              have e : d[j]? = some d[j] := List.getElem?_eq_getElem (by omega)
              rw [e] at q0 q1 q2
              simp only [Option.getD_some] at q0 q1 q2
              have g0 := (hbj.cell (p := ⟨b, off + j * 3, none⟩) hb).trans q0
              have g1 := (hbj.cell (p := ⟨b, off + j * 3 + 1, none⟩) hb).trans q1
              have g2 := (hbj.cell (p := ⟨b, off + j * 3 + 2, none⟩) hb).trans q2
              cases hm : key d[j] with
              | false =>
                have hpk := second_in d j i hnum (by omega) hm
                have hk : c1 d i + c2 d j < (part d).length := (List.getElem?_eq_some_iff.1 hpk).1
                have hkl : (c1 d i : Int) + (c2 d j : Int) < (i : Int) := by rw [part_length] at hk; omega
                have r := (hR.below hbj).elem (c1 d i + c2 d j) hk
                rw [hpk] at r
                simp only [Option.getD_some] at r
                obtain ⟨r0, r1, r2⟩ := r
                have HC : Hid (c2 d (j + 1) = c2 d j + 1) := c2_yes d j (by omega) hm
                have hmb : mustB d[j].1 = false := hm
                clear hm hpk hk q0 q1 q2 hR hs2 e hF2
                generalize d[j] = f at *
                generalize c1 d i = k1 at *
                generalize c2 d j = k2 at *
                go_wp2_with (go_at_call 24; refine (must24 _ _).mono ?_; rintro e w' ⟨rfl, rfl⟩)
                go_region_with (go_at_call 25; refine (same25 f _).mono ?_; rintro e w5 ⟨rfl, hb5⟩)
                all_goals
                  go_wp2
                  go_roundw
                  case rel => exact ⟨j + 1, by omega, by go_num, by rw [HC.out]; go_num, hbj.drew.trans (hb5.mono (by simp; exact hbj.size))⟩
                  case measure => simp [intOf]; omega
              | true =>
                have HC : Hid (c2 d (j + 1) = c2 d j) := c2_no d j (by omega) hm
                have hmb : mustB d[j].1 = true := hm
                clear hm q0 q1 q2 hR hs2 e hF2
                generalize d[j] = f at *
                generalize c1 d i = k1 at *
                generalize c2 d j = k2 at *
                go_wp2_with (go_at_call 24; refine (must24 _ _).mono ?_; rintro e w' ⟨rfl, rfl⟩)
                go_roundw
                case rel => exact ⟨j + 1, by omega, by go_num, by rw [HC.out], hbj⟩
                case measure => simp [intOf]; omega
            · have hB : Below w.heap.size w wr := hb2.trans (hbj.mono hz2)
              clear hs2 hF2 hbj hb2
              go_wp2
              go_ret
              exact ⟨rfl, hB⟩
end Go.Proofs.Qxb6615667a.Srt
