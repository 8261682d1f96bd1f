import Derived.Test.Qxb6615667aSortJoin
import Derived.Deep.DeepCutAuto
namespace Go.Proofs.Qxb6615667a.Srt
open Go.ChangeShapes Go.WideShapes Go.ChangeAt Go.RowKit Plain

theorem info61z : (Try.prog.info? 61).map (fun i => (i.zero, i.size, i.bytes)) = some (some (.agg #[.string ByteArray.empty, .string ByteArray.empty, .string ByteArray.empty]), 3, 48) := by kernel_rfl
theorem flat_snoc (d : List Fd) (i : Nat) (hi : i < d.length) : flat (d.take (i + 1)) = flat (d.take i) ++ [.string d[i].1, .string d[i].2.1, .string d[i].2.2] := by
  rw [take_succ d i hi]; unfold flat; rw [List.flatMap_append]; rfl
theorem flat_app (d e : List Fd) : flat (d ++ e) = flat d ++ flat e := by unfold flat; rw [List.flatMap_append]
/-- The new cells lie where append looks for them. -/
theorem news_at (w : World) (f : Fd) : ∀ (j : Nat) (u : Value), [Value.string f.1, .string f.2.1, .string f.2.2][j]? = some u → (w.alloc (.cells #[.string f.1, .string f.2.1, .string f.2.2] 61)).cell? ((⟨w.heap.size, 0, none⟩ : Addr).add j) = some u := by
  intro j u hj
  rw [add_plain, Nat.zero_add]
  match j, hj with
  | 0, hj => simp at hj; subst hj; simp
  | 1, hj => simp at hj; subst hj; simp
  | 2, hj => simp at hj; subst hj; simp
  | j + 3, hj => simp at hj
theorem news_one (f : Fd) : ∀ u ∈ [Value.string f.1, .string f.2.1, .string f.2.2], u.oneCell' = true := by
  intro u hu
  simp at hu
  rcases hu with rfl | rfl | rfl <;> rfl

theorem below_pass {w w1 w2 : World} {q : Option Addr} (hb : Below w.heap.size w w1) (hk : w.heap.size ≤ bk q w1) (hf : Fr (bk q w1) w1 w2) : Below w.heap.size w w2 := hb.trans (hf.below hk hb.size)
theorem FindRow.pass {w w1 w2 : World} {p q : Option Addr} {n : Nat} {d : List Fd} (h : FindRow w p n d) (hb : Below w.heap.size w w1) (hk : w.heap.size ≤ bk q w1) (hf : Fr (bk q w1) w1 w2) : FindRow w2 p n d := by
  refine ⟨h.1, ?_⟩
  rcases h.2 with h0 | ⟨blk, rfl, hR⟩
  · exact Or.inl h0
  · exact Or.inr ⟨blk, rfl, hR.below (below_pass hb hk hf)⟩

theorem neq65_three (t1 t2 t3 : ByteArray) (w : World) : (binOp .neq 65 (.agg #[.string t1, .string t2, .string t3]) (.agg #[.string t1, .string t2, .string t3])).run Try.prog w = .ok (.bool false) w := neq65 (t1, t2, t3) w
theorem FindRow.row {w : World} {p : Option Addr} {n t : Nat} {d : List Fd} (h : FindRow w p n d) (ht : t < n) : ∃ blk, p = some ⟨blk, 0, none⟩ ∧ Row w blk d := by
  rcases h.2 with ⟨_, h0⟩ | h
  · omega
  · exact h
/-- The same element of two rows. -/
theorem two_at {w wr : World} {pC pO : Option Addr} {nC nO cI oI : Nat} {dC dO : List Fd} (fC : FindRow w pC nC dC) (fO : FindRow w pO nO dO) (hb : Below w.heap.size w wr) (ho : oI < nO) (he : dC[cI]? = dO[oI]?) :
    ∃ (bc bo : Nat) (t1 t2 t3 : ByteArray), pC = some ⟨bc, 0, none⟩ ∧ pO = some ⟨bo, 0, none⟩ ∧ cI < nC ∧ wr.cell? ⟨bc, cI * 3, none⟩ = some (.string t1) ∧ wr.cell? ⟨bc, cI * 3 + 1, none⟩ = some (.string t2) ∧ wr.cell? ⟨bc, cI * 3 + 2, none⟩ = some (.string t3) ∧
      wr.cell? ⟨bo, oI * 3, none⟩ = some (.string t1) ∧ wr.cell? ⟨bo, oI * 3 + 1, none⟩ = some (.string t2) ∧ wr.cell? ⟨bo, oI * 3 + 2, none⟩ = some (.string t3) := by
  have hlo : oI < dO.length := by rw [fO.1]; exact ho
  have e := List.getElem?_eq_getElem hlo
  rw [e] at he
  have hlc : cI < dC.length := (List.getElem?_eq_some_iff.1 he).1
  have hc : cI < nC := by rw [← fC.1]; exact hlc
  obtain ⟨bc, rfl, rC⟩ := fC.row hc
  obtain ⟨bo, rfl, rO⟩ := fO.row ho
  have c := (rC.below hb).elem cI hlc
  have o := (rO.below hb).elem oI hlo
  rw [he] at c
  rw [e] at o
  exact ⟨bc, bo, _, _, _, rfl, rfl, hc, c.1, c.2.1, c.2.2, o.1, o.2.1, o.2.2⟩
theorem one_at {w wr : World} {p : Option Addr} {n t : Nat} {d : List Fd} {c : Bool} (f : FindRow w p n d) (hb : Below w.heap.size w wr) (ht : t < n) (hk : ∀ f, d[t]? = some f → mustB f.1 = c) :
    ∃ (b : Nat) (t1 : ByteArray), p = some ⟨b, 0, none⟩ ∧ wr.cell? ⟨b, t * 3, none⟩ = some (.string t1) ∧ mustB t1 = c := by
  have hl : t < d.length := by rw [f.1]; exact ht
  have e := List.getElem?_eq_getElem hl
  obtain ⟨b, rfl, r⟩ := f.row ht
  have x := ((r.below hb).elem t hl).1
  rw [e] at x
  exact ⟨b, _, rfl, x, hk _ e⟩

/-- A slice of the call's own, as one that came in. -/
theorem finds_own {w : World} {base g n : Nat} {d : List Fd} (h : w.ownsRow base 61 3 (.slice (some ⟨g, 0, none⟩) n n) n (flat d)) (hd : d.length = n) (hr : n * 48 ≤ 140737488351232) (hsh : ∀ f ∈ d, f.1.size ≤ maxLen ∧ f.2.1.size ≤ maxLen ∧ f.2.2.size ≤ maxLen) : Finds w (some ⟨g, 0, none⟩) n n d := by
  refine ⟨Nat.le_refl _, hr, hd, (fun h => by cases h), fun k hk => ⟨g, 0, rfl, ?_, ?_, ?_, ?_⟩, hsh⟩
  · rcases h.2 with ⟨h, _⟩ | ⟨g', c, cur, h, hg, hh, _⟩
    · simp at h
    · simp only [Value.slice.injEq, Option.some.injEq, Addr.mk.injEq, and_true, true_and] at h
      obtain ⟨rfl, rfl⟩ := h
      exact (Array.getElem?_eq_some_iff.1 hh).1
  · rw [Nat.zero_add, h.cellAt (k * 3) (by omega), flat_get, show k * 3 / 3 = k by omega, show k * 3 % 3 = 0 by omega, List.getElem?_eq_getElem (by omega)]; rfl
  · rw [Nat.zero_add, h.cellAt (k * 3 + 1) (by omega), flat_get, show (k * 3 + 1) / 3 = k by omega, show (k * 3 + 1) % 3 = 1 by omega, List.getElem?_eq_getElem (by omega)]; rfl
  · rw [Nat.zero_add, h.cellAt (k * 3 + 2) (by omega), flat_get, show (k * 3 + 2) / 3 = k by omega, show (k * 3 + 2) % 3 = 2 by omega, List.getElem?_eq_getElem (by omega)]; rfl

set_option maxHeartbeats 8000000 in
set_option maxRecDepth 100000 in
theorem walk8 (a b : Option Addr) (la ca lb cb : Nat) (da db : List Fd) (w : World) (hs : Finds w a la ca da) (ht : Finds w b lb cb db) :
    Calls Try.prog 8 #[.slice a la ca, .slice b lb cb] w fun e w' => e = .returned (.bool true) ∧ Below w.heap.size w w' := by
  have hl := hs.le
  have hr := hs.reach
  have hna := hs.num
  have hl2 := ht.le
  have hr2 := ht.reach
  have hnb := ht.num
  go_enter Try.func8, Try.ntmps8
  go_wp2_with fail
  refine (bytes26 a b la ca lb cb da db w hs ht).mono ?_
  rintro e w' ⟨⟨bb, rfl⟩, rfl⟩
  cases bb with
  | false =>
    go_wp2
    go_ret
    exact ⟨rfl, Below.refl _ _⟩
  | true =>
    by_cases h1 : (65536 : Int) < (la : Int)
    · go_wp2
      go_ret
      exact ⟨rfl, Below.refl _ _⟩
    by_cases h1' : (65536 : Int) < (lb : Int)
    · go_wp2
      go_ret
      exact ⟨rfl, Below.refl _ _⟩
    by_cases h2 : (1048576 : Int) < 48 * (la : Int) + 48 * (lb : Int)
    · go_wp2
      go_ret
      exact ⟨rfl, Below.refl _ _⟩
    go_wp2_with fail
    refine (over21 a la ca _ da w' hs).mono ?_
    rintro e w ⟨⟨tt, bb, rfl⟩, rfl⟩
    cases bb with
    | true =>
      go_wp2
      go_ret
      exact ⟨rfl, Below.refl _ _⟩
    | false =>
      go_wp2_with fail
      refine (over21 b lb cb _ db w ht).mono ?_
      rintro e w' ⟨⟨tt2, bb, rfl⟩, rfl⟩
      cases bb with
      | true =>
        go_wp2
        go_ret
        exact ⟨rfl, Below.refl _ _⟩
      | false =>
        obtain ⟨i0, hi, hz0, hz1, hz2⟩ := info_parts info61z
        go_wp2_with (at_make; refine wpList_make_own _ rfl _ _ 53 rfl w'.heap.size 61 i0 _ 3 Try.underlying53 hi hz0 hz1 _ _ _ (la + lb) rfl rfl (by omega) (by rw [hz2]; omega) (by unfold maxLen; omega) (Nat.le_refl _) ?_; intro w1 hown hgrow)
        have hbel : Below w'.heap.size w' w1 := (Below.refl _ _).grown hgrow (Nat.le_refl _) (fun _ h => by cases h)
        clear hgrow
        go_loopw [9, 10] (fun v9 vi wr => ∃ i : Nat, i ≤ la ∧ vi = .int .i64 i ∧ v9 = .slice (some ⟨w'.heap.size, 0, none⟩) i (la + lb) ∧ wr.ownsRow w'.heap.size 61 3 v9 i (flat (da.take i)) ∧ Below w'.heap.size w' wr) (fun _ vi _ => la - (intOf vi).toNat)
        case atStart => exact ⟨0, Nat.zero_le _, rfl, rfl, hown, hbel⟩
        case round =>
          obtain ⟨i, hi1, rfl, rfl, how, hbl⟩ := hrel
          clear hown hbel
          by_cases hlt : i < la
          · obtain ⟨b', off, rfl, hb', q0, q1, q2⟩ := hs.cells i hlt
            have e : da[i]? = some da[i] := List.getElem?_eq_getElem (by omega)
            rw [e] at q0 q1 q2
            simp only [Option.getD_some] at q0 q1 q2
            have g0 := (hbl.cell (p := ⟨b', off + i * 3, none⟩) hb').trans q0
            have g1 := (hbl.cell (p := ⟨b', off + i * 3 + 1, none⟩) hb').trans q1
            have g2 := (hbl.cell (p := ⟨b', off + i * 3 + 2, none⟩) hb').trans q2
            have HF : Hid (flat (da.take (i + 1)) = flat (da.take i) ++ [.string da[i].1, .string da[i].2.1, .string da[i].2.2]) := flat_snoc da i (by omega)
            clear q0 q1 q2 e hs ht
            generalize da[i] = f at *
            generalize flat (da.take i) = xs at *
            go_wp2_with (at_builtin; refine wpList_append_fits _ rfl (.tmp 75) (.tmp 80) 53 rfl w'.heap.size 61 i0 3 Try.underlying53 hi hz1 w'.heap.size i (la + lb) xs rfl (how.alloc _) ⟨wr.heap.size, 0, none⟩ 1 1 [.string f.1, .string f.2.1, .string f.2.2] rfl rfl (news_at wr f) (news_one f) (by omega) ?_; intro w2 hown2 hgrow2)
            go_roundw
            case rel => exact ⟨i + 1, by omega, by go_num, rfl, by rw [HF.out]; exact hown2, (hbl.alloc hbl.size _).grown hgrow2 (by simp; have := hbl.size; omega) (fun k hk => by cases hk; exact Nat.le_refl _)⟩
            case measure => simp [intOf]; omega
          · obtain rfl : i = la := by omega
            have how2 : wr.ownsRow w'.heap.size 61 3 (.slice (some ⟨w'.heap.size, 0, none⟩) i (i + lb)) i (flat da ++ flat (db.take 0)) := by
              rw [show flat da ++ flat (db.take 0) = flat (da.take i) from by rw [← hna, List.take_length]; simp [flat]]; exact how
            clear how
            go_wp2
            go_loopw [9, 11] (fun v9 vi wr => ∃ j : Nat, j ≤ lb ∧ vi = .int .i64 j ∧ v9 = .slice (some ⟨w'.heap.size, 0, none⟩) (i + j) (i + lb) ∧ wr.ownsRow w'.heap.size 61 3 v9 (i + j) (flat da ++ flat (db.take j)) ∧ Below w'.heap.size w' wr) (fun _ vi _ => lb - (intOf vi).toNat)
            case atStart => exact ⟨0, Nat.zero_le _, rfl, rfl, how2, hbl⟩
            case round =>
              obtain ⟨j, hj1, rfl, rfl, how, hbj⟩ := hrel
              clear how2 hbl
              by_cases hjt : j < lb
              · obtain ⟨b', off, rfl, hb', q0, q1, q2⟩ := ht.cells j hjt
                have e : db[j]? = some db[j] := List.getElem?_eq_getElem (by omega)
                rw [e] at q0 q1 q2
                simp only [Option.getD_some] at q0 q1 q2
                have g0 := (hbj.cell (p := ⟨b', off + j * 3, none⟩) hb').trans q0
                have g1 := (hbj.cell (p := ⟨b', off + j * 3 + 1, none⟩) hb').trans q1
                have g2 := (hbj.cell (p := ⟨b', off + j * 3 + 2, none⟩) hb').trans q2
                have HF : Hid (flat da ++ flat (db.take (j + 1)) = flat da ++ flat (db.take j) ++ [.string db[j].1, .string db[j].2.1, .string db[j].2.2]) := by
                  show _ = _
                  rw [flat_snoc db j (by omega), List.append_assoc]
                clear q0 q1 q2 e hs ht
                generalize db[j] = f at *
                generalize flat da ++ flat (db.take j) = xs at *
                go_wp2_with (at_builtin; refine wpList_append_fits _ rfl (.tmp 88) (.tmp 93) 53 rfl w'.heap.size 61 i0 3 Try.underlying53 hi hz1 w'.heap.size (i + j) (i + lb) xs rfl (how.alloc _) ⟨wr.heap.size, 0, none⟩ 1 1 [.string f.1, .string f.2.1, .string f.2.2] rfl rfl (news_at wr f) (news_one f) (by omega) ?_; intro w2 hown2 hgrow2)
                go_roundw
                case rel => exact ⟨j + 1, by omega, by go_num, by rw [show i + (j + 1) = i + j + 1 by omega], by rw [HF.out, show i + (j + 1) = i + j + 1 by omega]; exact hown2, (hbj.alloc hbj.size _).grown hgrow2 (by simp; have := hbj.size; omega) (fun k hk => by cases hk; exact Nat.le_refl _)⟩
                case measure => simp [intOf]; omega
              · obtain rfl : j = lb := by omega
                have hab : Finds wr (some ⟨w'.heap.size, 0, none⟩) (i + j) (i + j) (da ++ db) := finds_own (by rw [flat_app]; rw [show flat (db.take j) = flat db from by rw [← hnb, List.take_length]] at how; exact how) (by simp [hna, hnb]) (by omega) (fun f hf => by
                  rcases List.mem_append.1 hf with h | h
                  · exact hs.short f h
                  · exact ht.short f h)
                have hsA : Finds wr a i ca da := hs.below hbj
                have hsB : Finds wr b j cb db := ht.below hbj
                have hzz := hbj.size
                clear how hs ht hi hz0 hz1 hz2
                go_wp2_with fail
                refine (to23 a i ca da wr hsA (by omega)).mono ?_
                rintro e wA1 ⟨pA, rfl, fA1, bA1, kA⟩
                go_wp2_with fail
                refine (zz22 i pA da wA1 fA1 (by omega)).mono ?_
                rintro e wA2 ⟨rfl, fA2, rA⟩
                have BA := below_pass bA1 kA rA
                have hsA2 := hsA.below BA
                have hsB2 := hsB.below BA
                have hab2 := hab.below BA
                have HB2 : Hid (Below w'.heap.size w' wA2) := hbj.trans (BA.mono hzz)
                have hz2 : w'.heap.size ≤ wA2.heap.size := HB2.out.size
                clear fA1 bA1 kA rA BA hsA hsB hab hbj hzz
                go_wp2_with fail
                refine (to23 b j cb db wA2 hsB2 (by omega)).mono ?_
                rintro e wB1 ⟨pB, rfl, fB1, bB1, kB⟩
                go_wp2_with fail
                refine (zz22 j pB db wB1 fB1 (by omega)).mono ?_
                rintro e wB2 ⟨rfl, fB2, rB⟩
                have BB := below_pass bB1 kB rB
                have fA3 := fA2.pass bB1 kB rB
                have hsA3 := hsA2.below BB
                have hsB3 := hsB2.below BB
                have hab3 := hab2.below BB
                have HB3 : Hid (Below w'.heap.size w' wB2) := HB2.out.trans (BB.mono hz2)
                have hz3 : w'.heap.size ≤ wB2.heap.size := HB3.out.size
                clear fB1 bB1 kB rB BB fA2 hsA2 hsB2 hab2 HB2 hz2
                go_wp2_with fail
                refine (to23 (some ⟨w'.heap.size, 0, none⟩) (i + j) (i + j) (da ++ db) wB2 hab3 (by omega)).mono ?_
                rintro e wC1 ⟨pC, rfl, fC1, bC1, kC⟩
                go_wp2_with fail
                refine (zz22 (i + j) pC (da ++ db) wC1 fC1 (by omega)).mono ?_
                rintro e wC2 ⟨rfl, fC2, rC⟩
                have BC := below_pass bC1 kC rC
                have fA4 := fA3.pass bC1 kC rC
                have fB4 := fB2.pass bC1 kC rC
                have hsA4 := hsA3.below BC
                have hsB4 := hsB3.below BC
                have HB4 : Hid (Below w'.heap.size w' wC2) := HB3.out.trans (BC.mono hz3)
                clear fC1 bC1 kC rC BC fA3 fB2 hsA3 hsB3 hab3 HB3 hz3
                go_wp2_with fail
                refine (count27 a i ca da wC2 hsA4).mono ?_
                rintro e w3 ⟨rfl, hw3⟩
                subst hw3
                go_wp2_with fail
                refine (count27 b j cb db w3 hsB4).mono ?_
                rintro e w4 ⟨rfl, hw4⟩
                subst hw4
                have hka := c1_le da i
                have hkb := c1_le db j
                clear hsA4 hsB4
                have HJ : Hid (da.length = i ∧ db.length = j) := ⟨hna, hnb⟩
                clear hna hnb
                generalize hKA : c1 da i = ka at *
                generalize hKB : c1 db j = kb at *
                have HKA : Hid (c1 da i = ka ∧ c1 db j = kb) := ⟨hKA, hKB⟩
                clear hKA hKB
                have hz4 : w'.heap.size ≤ w4.heap.size := HB4.out.size
                have hnq := neq65_three
                go_wp2
                go_loopw [17, 18] (fun v17 v18 wr => ∃ q : Nat, 0 ≤ q ∧ q ≤ ka ∧ v18 = .int .i64 q ∧ v17 = .int .i64 (q : Int) ∧ Below w4.heap.size w4 wr) (fun _ v _ => ka - (intOf v).toNat)
                case atStart => exact ⟨0, Nat.le_refl _, by omega, rfl, by go_num, Below.refl _ _⟩
                case round =>
                  obtain ⟨q, hq0, hq1, rfl, rfl, hbq0⟩ := hrel
                  by_cases hlt : q < ka
                  · obtain ⟨bc, bo, t1, t2, t3, rfl, rfl, hcI, p0, p1, p2, o0, o1, o2⟩ := two_at (oI := q) (cI := q) fC2 fA4 hbq0 (by omega) (join_a1 da db i q HJ.out.1 (by rw [HKA.out.1]; exact hlt))
                    clear fA4 fB4 fC2
                    go_wp2
                    go_quiet (fail)
                    go_wp2
                    go_roundw
                    case rel => exact ⟨q + 1, by omega, by omega, by go_num, by go_num, below_drewN hbq0 _⟩
                    case measure => simp [intOf]; omega
                  · have hqe : ka = q := by omega
                    subst hqe
                    go_wp2
                    go_loopw [17, 19] (fun v17 v19 wr => ∃ q : Nat, 0 ≤ q ∧ q ≤ kb ∧ v19 = .int .i64 q ∧ v17 = .int .i64 ((ka : Int) + q) ∧ Below w4.heap.size w4 wr) (fun _ v _ => kb - (intOf v).toNat)
                    case atStart => exact ⟨0, Nat.le_refl _, by omega, rfl, by go_num, hbq0⟩
                    case round =>
                      obtain ⟨q, hq0, hq1, rfl, rfl, hbq1⟩ := hrel
                      clear hbq0
                      by_cases hlt : q < kb
                      · obtain ⟨bc, bo, t1, t2, t3, rfl, rfl, hcI, p0, p1, p2, o0, o1, o2⟩ := two_at (oI := q) (cI := (ka + q)) fC2 fB4 hbq1 (by omega) (by have := join_b1 da db i j q HJ.out.1 HJ.out.2 (by rw [HKA.out.2]; exact hlt); rw [HKA.out.1] at this; exact this)
                        clear fA4 fB4 fC2
                        go_wp2
                        go_quiet (fail)
                        go_wp2
                        go_roundw
                        case rel => exact ⟨q + 1, by omega, by omega, by go_num, by go_num, below_drewN hbq1 _⟩
                        case measure => simp [intOf]; omega
                      · have hqe : kb = q := by omega
                        subst hqe
                        go_wp2
                        go_loopw [17, 20] (fun v17 v20 wr => ∃ q : Nat, ka ≤ q ∧ q ≤ i ∧ v20 = .int .i64 q ∧ v17 = .int .i64 ((kb : Int) + q) ∧ Below w4.heap.size w4 wr) (fun _ v _ => i - (intOf v).toNat)
                        case atStart => exact ⟨ka, Nat.le_refl _, by omega, rfl, by go_num, hbq1⟩
                        case round =>
                          obtain ⟨q, hq0, hq1, rfl, rfl, hbq2⟩ := hrel
                          clear hbq1
                          by_cases hlt : q < i
                          · obtain ⟨bc, bo, t1, t2, t3, rfl, rfl, hcI, p0, p1, p2, o0, o1, o2⟩ := two_at (oI := q) (cI := (kb + q)) fC2 fA4 hbq2 (by omega) (by have := join_a2 da db i j q HJ.out.1 HJ.out.2 (by rw [HKA.out.1]; exact hq0) hlt; rw [HKA.out.2] at this; exact this)
                            clear fA4 fB4 fC2
                            go_wp2
                            go_quiet (fail)
                            go_wp2
                            go_roundw
                            case rel => exact ⟨q + 1, by omega, by omega, by go_num, by go_num, below_drewN hbq2 _⟩
                            case measure => simp [intOf]; omega
                          · have hqe : i = q := by omega
                            subst hqe
                            go_wp2
                            go_loopw [17, 21] (fun v17 v21 wr => ∃ q : Nat, kb ≤ q ∧ q ≤ j ∧ v21 = .int .i64 q ∧ v17 = .int .i64 ((i : Int) + q) ∧ Below w4.heap.size w4 wr) (fun _ v _ => j - (intOf v).toNat)
                            case atStart => exact ⟨kb, Nat.le_refl _, by omega, rfl, by go_num, hbq2⟩
                            case round =>
                              obtain ⟨q, hq0, hq1, rfl, rfl, hbq3⟩ := hrel
                              clear hbq2
                              by_cases hlt : q < j
                              · obtain ⟨bc, bo, t1, t2, t3, rfl, rfl, hcI, p0, p1, p2, o0, o1, o2⟩ := two_at (oI := q) (cI := (i + q)) fC2 fB4 hbq3 (by omega) (join_b2 da db i j q HJ.out.1 HJ.out.2 (by rw [HKA.out.2]; exact hq0))
                                clear fA4 fB4 fC2
                                go_wp2
                                go_quiet (fail)
                                go_wp2
                                go_roundw
                                case rel => exact ⟨q + 1, by omega, by omega, by go_num, by go_num, below_drewN hbq3 _⟩
                                case measure => simp [intOf]; omega
                              · have hqe : j = q := by omega
                                subst hqe
                                go_wp2
                                go_loopw [22] (fun v22 wr => ∃ q : Nat, q ≤ i + j ∧ v22 = .int .i64 q ∧ Below w4.heap.size w4 wr) (fun v _ => (i + j) - (intOf v).toNat)
                                case atStart => exact ⟨0, Nat.zero_le _, rfl, hbq3⟩
                                case round =>
                                  obtain ⟨q, hq1, rfl, hbq⟩ := hrel
                                  clear hbq3
                                  by_cases hlt : q < i + j
                                  · obtain ⟨bc, t1, rfl, p0, hmm⟩ := one_at (t := q) fC2 hbq hlt (fun f hf => join_key da db i j q HJ.out.1 HJ.out.2 f hf)
                                    rw [HKA.out.1, HKA.out.2] at hmm
                                    clear fA4 fB4 fC2
                                    by_cases hqk : q < ka + kb
                                    · rw [decide_eq_true hqk] at hmm
                                      have hdq : decide ((q : Int) < (ka : Int) + (kb : Int)) = true := decide_eq_true (by omega)
                                      have hdq2 : (q : Int) < (ka : Int) + (kb : Int) := by omega
                                      go_wp2_with (go_at_call 24; refine (must24 _ _).mono ?_; rintro e w' ⟨rfl, rfl⟩)
                                      go_roundw
                                      case rel => exact ⟨q + 1, by omega, by go_num, hbq⟩
                                      case measure => simp [intOf]; omega
                                    · rw [decide_eq_false hqk] at hmm
                                      go_wp2_with (go_at_call 24; refine (must24 _ _).mono ?_; rintro e w' ⟨rfl, rfl⟩)
                                      go_roundw
                                      case rel => exact ⟨q + 1, by omega, by go_num, hbq⟩
                                      case measure => simp [intOf]; omega
                                  · have HBZ : Hid (Below w'.heap.size w' wr) := HB4.out.trans (hbq.mono hz4)
                                    clear fA4 fB4 fC2
                                    go_wp2
                                    go_ret
                                    exact ⟨rfl, HBZ.out⟩
end Go.Proofs.Qxb6615667a.Srt
