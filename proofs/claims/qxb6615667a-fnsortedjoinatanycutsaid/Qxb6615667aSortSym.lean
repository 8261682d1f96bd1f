import Derived.Test.Qxb6615667aSortSymR
import Derived.Deep.DeepCutAuto
namespace Go.Proofs.Qxb6615667a.Srt
open Go.ChangeShapes Go.WideShapes Go.ChangeAt Go.RowKit Plain

theorem rotate54_at (V blk n a m b : Nat) (H : Value) (d : List Fd) (w : World) (hsw : SwapOk H blk n) (hR : Row w blk d) (hn : d.length = n) (ham : a < m) (hmb : m < b) (hb : b ≤ n) (hnb : n ≤ 21845) (ia im ib : Int) (ea : ia = (a : Int)) (em : im = (m : Int)) (eb : ib = (b : Int)) :
    Calls Try.prog 54 #[.agg #[.func (.func 35) #[] #[.pointer (some ⟨V, 0, none⟩)], .func (.func 51) #[] #[.slice (some ⟨blk, 0, none⟩) n n, H]], .int .i64 ia, .int .i64 im, .int .i64 ib] w fun e w' => e = .returned (.tuple #[]) ∧ Fr blk w w' ∧ ∃ d', Row w' blk d' ∧ d'.length = n ∧ ∀ t, d'[t]? = d[rtI a (m - a) (b - m) t]? := by
  subst ea em eb
  exact rotate54 V blk n a m b H d w hsw hR hn ham hmb hb hnb

theorem rtI_x (K y t : Nat) : rtI K 0 y t = t := by
  unfold rtI
  split
  · rfl
  · rw [if_neg (by omega)]
theorem rtI_y (K x t : Nat) : rtI K x 0 t = t := by unfold rtI; rw [if_neg (by omega)]; split <;> rfl
theorem ex_out {d d' : List Fd} {a b a' b' : Nat} (h : ∃ k, Parted key z0 d a b k) (hm : Moved key a' b' d d') (ho : b ≤ a' ∨ b' ≤ a) : ∃ k, Parted key z0 d' a b k := by
  obtain ⟨k, hk⟩ := h
  exact ⟨k, hk.out key hm ho⟩

/-- What symMerge does, at stretches of at most N. -/
def SymOk (V L blk n : Nat) (H : Value) (N : Nat) : Prop := ∀ (a m b : Nat) (d : List Fd) (w : World), b - a ≤ N → Env V L blk n w → Row w blk d → d.length = n → a < m → m < b → b ≤ n → (∃ k, Parted key z0 d a m k) → (∃ k, Parted key z0 d m b k) →
    ∀ ia im ib : Int, ia = (a : Int) → im = (m : Int) → ib = (b : Int) →
    Calls Try.prog 53 #[.agg #[.func (.func 35) #[] #[.pointer (some ⟨V, 0, none⟩)], .func (.func 51) #[] #[.slice (some ⟨blk, 0, none⟩) n n, H]], .int .i64 ia, .int .i64 im, .int .i64 ib] w fun e w' => e = .returned (.tuple #[]) ∧ Fr blk w w' ∧ ∃ d', Row w' blk d' ∧ d'.length = n ∧ Moved key a b d d' ∧ ∃ k, Parted key z0 d' a b k

set_option maxHeartbeats 8000000 in
set_option maxRecDepth 100000 in
/-- symMerge, two elements or more on each side. -/
theorem sym53_gen (V L blk n a m b N : Nat) (H : Value) (d : List Fd) (w : World) (ih : SymOk V L blk n H N) (hN : b - a ≤ N + 1) (hE : Env V L blk n w) (hsw : SwapOk H blk n) (hR : Row w blk d) (hn : d.length = n) (ham : a + 1 < m) (hmb : m + 1 < b) (hb : b ≤ n) (hnb : n ≤ 21845)
    (k1 k2 : Nat) (hP : Parted key z0 d a m k1) (hP2 : Parted key z0 d m b k2) :
    Calls Try.prog 53 #[.agg #[.func (.func 35) #[] #[.pointer (some ⟨V, 0, none⟩)], .func (.func 51) #[] #[.slice (some ⟨blk, 0, none⟩) n n, H]], .int .i64 a, .int .i64 m, .int .i64 b] w fun e w' => e = .returned (.tuple #[]) ∧ Fr blk w w' ∧ ∃ d', Row w' blk d' ∧ d'.length = n ∧ Moved key a b d d' ∧ ∃ k, Parted key z0 d' a b k := by
  have hlt := hR.lt
  obtain ⟨w1, hw1⟩ : ∃ w1, w1 = w.alloc (.cells #[.func (.func 35) #[] #[.pointer (some ⟨V, 0, none⟩)], .func (.func 51) #[] #[.slice (some ⟨blk, 0, none⟩) n n, H]] 87) := ⟨_, rfl⟩
  have c0 : w1.cell? ⟨w.heap.size, 0, none⟩ = some (.func (.func 35) #[] #[.pointer (some ⟨V, 0, none⟩)]) := by rw [hw1]; simp
  have c1 : w1.cell? ⟨w.heap.size, 1, none⟩ = some (.func (.func 51) #[] #[.slice (some ⟨blk, 0, none⟩) n n, H]) := by rw [hw1]; simp
  have z1 : w.heap.size < w1.heap.size := by rw [hw1]; simp
  have R1 : Row w1 blk d := by rw [hw1]; exact hR.alloc _
  have F1 : Fr blk w w1 := by rw [hw1]; exact Fr.alloc _ _
  have E1 : Env V L blk n w1 := hE.fr F1
  have HW : Hid (w1 = w.alloc (.cells #[.func (.func 35) #[] #[.pointer (some ⟨V, 0, none⟩)], .func (.func 51) #[] #[.slice (some ⟨blk, 0, none⟩) n n, H]] 87)) := hw1
  have HS : Hid (SwapOk H blk n) := hsw
  have HIH : Hid (SymOk V L blk n H N) := ih
  obtain ⟨mid, hmid⟩ : ∃ mid, mid = (a + b) / 2 := ⟨_, rfl⟩
  obtain ⟨K, q1, q2, q3, q4, q5, q6, q7⟩ := sym_K key (show b ≤ d.length by omega) hP hP2 (by omega) (by omega) hmid
  have md1 : 2 * mid ≤ a + b := by omega
  have md2 : a + b ≤ 2 * mid + 1 := by omega
  have HQ3 : Hid (∀ c, start0 m b mid a ≤ c → c < stop0 m mid → (ls key z0 d (mid + m - 1 - c) c = false ↔ c < K)) := q3
  have HQ7 : Hid _ := q7
  have s1 : a ≤ start0 m b mid a := by unfold start0; split <;> omega
  have s2 : stop0 m mid ≤ m ∧ stop0 m mid ≤ mid := by unfold stop0; split <;> omega
  have s3 : mid + m ≤ b + start0 m b mid a := by unfold start0; split <;> omega
  clear hw1 hsw hR hE q3 q7 hP hP2 hmid ih
  have ht : ((m : Int) - (a : Int) == 1) = false := beq_eq_false_iff_ne.2 (by omega)
  have ht2 : ((b : Int) - (m : Int) == 1) = false := beq_eq_false_iff_ne.2 (by omega)
  go_enter Try.func53, Try.ntmps53
  go_upto_if 106 with fail
  rw [← HW.out]
  clear HW
  generalize w.heap.size = B at *
  go_cut [18, 19] (fun v18 v19 wx => v18 = .int .i64 (start0 m b mid a : Nat) ∧ v19 = .int .i64 (stop0 m mid : Nat) ∧ w1 = wx)
  case first =>
    by_cases hm : mid < m
    · have hm' : ((a : Int) + (b : Int)) / 2 < (m : Int) := by omega
      have e0 : start0 m b mid a = mid + m - b := by unfold start0; rw [if_pos hm]
      have e1 : stop0 m mid = mid := by unfold stop0; rw [if_pos hm]
      have HE : Hid (start0 m b mid a = mid + m - b ∧ stop0 m mid = mid) := ⟨e0, e1⟩
      clear e0 e1
      go_wp2
      go_meet
      case rel => exact ⟨by rw [HE.out.1]; go_num, by rw [HE.out.2]; go_num, rfl⟩
    · have hm' : ¬ ((a : Int) + (b : Int)) / 2 < (m : Int) := by omega
      have e0 : start0 m b mid a = a := by unfold start0; rw [if_neg hm]
      have e1 : stop0 m mid = m := by unfold stop0; rw [if_neg hm]
      have HE : Hid (start0 m b mid a = a ∧ stop0 m mid = m) := ⟨e0, e1⟩
      clear e0 e1
      go_wp2
      go_meet
      case rel => exact ⟨by rw [HE.out.1], by rw [HE.out.2], rfl⟩
  case rest =>
    obtain ⟨rfl, rfl, rfl⟩ := hcut
    generalize start0 m b mid a = s0 at *
    generalize stop0 m mid = r0 at *
    obtain ⟨s2a, s2b⟩ := s2
    go_wp2
    go_loopw [18, 19] (fun vi vj wr => ∃ i j : Nat, vi = .int .i64 i ∧ vj = .int .i64 j ∧ s0 ≤ i ∧ i ≤ K ∧ K ≤ j ∧ j ≤ r0 ∧ w1 = wr) (fun vi vj _ => (intOf vj).toNat - (intOf vi).toNat)
    case atStart => exact ⟨s0, r0, rfl, rfl, Nat.le_refl _, q1, q2, Nat.le_refl _, rfl⟩
    case round =>
      obtain ⟨i, j, rfl, rfl, i1, i2, i3, i4, rfl⟩ := hrel
      by_cases hij : i < j
      · by_cases hh : (i + j) / 2 < K
        · have HL : Hid (ls key z0 d (mid + m - 1 - (i + j) / 2) ((i + j) / 2) = false) := (HQ3.out _ (by omega) (by omega)).2 hh
          go_wp2_with (go_at_call 35; refine (less35_at V L blk n (mid + m - 1 - (i + j) / 2) ((i + j) / 2) d w1 E1 R1 hn (by omega) (by omega) false HL.out _ _ (by omega) (by omega)).mono ?_; rintro e w' ⟨rfl, rfl⟩)
          go_roundw
          case rel => exact ⟨(i + j) / 2 + 1, j, by go_num, rfl, by omega, by omega, i3, i4, by simp⟩
          case measure => simp [intOf]; omega
        · have HL : Hid (ls key z0 d (mid + m - 1 - (i + j) / 2) ((i + j) / 2) = true) := by
            show ls key z0 d (mid + m - 1 - (i + j) / 2) ((i + j) / 2) = true
            have := mt (HQ3.out ((i + j) / 2) (by omega) (by omega)).1 hh
            simpa using this
          go_wp2_with (go_at_call 35; refine (less35_at V L blk n (mid + m - 1 - (i + j) / 2) ((i + j) / 2) d w1 E1 R1 hn (by omega) (by omega) true HL.out _ _ (by omega) (by omega)).mono ?_; rintro e w' ⟨rfl, rfl⟩)
          go_roundw
          case rel => exact ⟨i, (i + j) / 2, rfl, by go_num, i1, i2, by omega, by omega, by simp⟩
          case measure => simp [intOf]; omega
      · have e1 : i = K := by omega
        have e2 : j = K := by omega
        subst e1 e2
        clear i1 i2 i3 hij HQ3
        have HX : Hid True := trivial
        by_cases hx : j < m
        · skip
          by_cases hy : j < mid
          · skip
            by_cases hz : a < j
            · skip
              by_cases hw : mid + m - j < b
              · skip
                clear HX
                go_wp2_with fail
                refine (rotate54_at V blk n j m (mid + m - j) H d w1 HS.out R1 hn hx (by omega) (by omega) hnb _ _ _ rfl rfl (by omega)).mono ?_
                rintro e w2 ⟨rfl, F2, d1, R2, l2, g2⟩
                rw [show mid + m - j - m = mid - j by omega] at g2
                have G := HQ7.out d1 g2
                clear g2
                obtain ⟨gm, g1, g2, g3, g4, g5⟩ := G
                have GM : Hid (Moved key a b d d1) := gm
                have G5 : Hid _ := g5
                clear gm g5 HQ7
                have k0 := (F2.cell (o := 0) z1 (by omega)).trans c0
                have k1 := (F2.cell (o := 1) z1 (by omega)).trans c1
                go_wp2_with fail
                refine (HIH.out a j mid d1 w2 (by omega) (E1.fr F2) R2 l2 hz hy (by omega) g1 g2 _ _ _ rfl rfl (by omega)).mono ?_
                rintro e w3 ⟨rfl, F3, d2, R3, l3, m3, p3⟩
                have F23 : Fr blk w1 w3 := F2.trans F3
                have k2 := (F23.cell (o := 0) z1 (by omega)).trans c0
                have k3 := (F23.cell (o := 1) z1 (by omega)).trans c1
                go_wp2_with fail
                refine (HIH.out mid (mid + m - j) b d2 w3 (by omega) (E1.fr F23) R3 l3 (by omega) hw hb (ex_out g3 m3 (Or.inr (by omega))) (ex_out g4 m3 (Or.inr (by omega))) _ _ _ (by omega) (by omega) rfl).mono ?_
                rintro e w4 ⟨rfl, F4, d3, R4, l4, m4, p4⟩
                have Z := sym_end key m3 m4 p3 p4 G5.out
                have HZ : Hid (Moved key a b d d3 ∧ ∃ k, Parted key z0 d3 a b k) := ⟨GM.out.trans key Z.1, Z.2⟩
                clear Z m3 m4 p3 p4 g1 g2 g3 g4 GM G5 HIH HS
                go_wp2
                go_end0
                exact ⟨rfl, F1.trans (F23.trans F4), d3, R4, l4, HZ.out.1, HZ.out.2⟩
              · skip
                clear HX
                go_wp2_with fail
                refine (rotate54_at V blk n j m (mid + m - j) H d w1 HS.out R1 hn hx (by omega) (by omega) hnb _ _ _ rfl rfl (by omega)).mono ?_
                rintro e w2 ⟨rfl, F2, d1, R2, l2, g2⟩
                rw [show mid + m - j - m = mid - j by omega] at g2
                have G := HQ7.out d1 g2
                clear g2
                obtain ⟨gm, g1, g2, g3, g4, g5⟩ := G
                have GM : Hid (Moved key a b d d1) := gm
                have G5 : Hid _ := g5
                clear gm g5 HQ7
                have k0 := (F2.cell (o := 0) z1 (by omega)).trans c0
                have k1 := (F2.cell (o := 1) z1 (by omega)).trans c1
                go_wp2_with fail
                refine (HIH.out a j mid d1 w2 (by omega) (E1.fr F2) R2 l2 hz hy (by omega) g1 g2 _ _ _ rfl rfl (by omega)).mono ?_
                rintro e w3 ⟨rfl, F3, d2, R3, l3, m3, p3⟩
                have F23 : Fr blk w1 w3 := F2.trans F3
                have m4 : Moved key mid b d2 d2 := Moved.refl key d2 (by omega) (by omega)
                have p4 := parted_join key (ex_out g3 m3 (Or.inr (by omega))) (ex_out g4 m3 (Or.inr (by omega))) (by omega)
                have Z := sym_end key m3 m4 p3 p4 G5.out
                have HZ : Hid (Moved key a b d d2 ∧ ∃ k, Parted key z0 d2 a b k) := ⟨GM.out.trans key Z.1, Z.2⟩
                clear Z m3 m4 p3 p4 g1 g2 g3 g4 GM G5 HIH HS
                go_wp2
                go_end0
                exact ⟨rfl, F1.trans F23, d2, R3, l3, HZ.out.1, HZ.out.2⟩
            · skip
              by_cases hw : mid + m - j < b
              · skip
                clear HX
                go_wp2_with fail
                refine (rotate54_at V blk n j m (mid + m - j) H d w1 HS.out R1 hn hx (by omega) (by omega) hnb _ _ _ rfl rfl (by omega)).mono ?_
                rintro e w2 ⟨rfl, F2, d1, R2, l2, g2⟩
                rw [show mid + m - j - m = mid - j by omega] at g2
                have G := HQ7.out d1 g2
                clear g2
                obtain ⟨gm, g1, g2, g3, g4, g5⟩ := G
                have GM : Hid (Moved key a b d d1) := gm
                have G5 : Hid _ := g5
                clear gm g5 HQ7
                have k0 := (F2.cell (o := 0) z1 (by omega)).trans c0
                have k1 := (F2.cell (o := 1) z1 (by omega)).trans c1
                go_wp2_with fail
                have m3 : Moved key a mid d1 d1 := Moved.refl key d1 (by omega) (by omega)
                have p3 := parted_join key g1 g2 (by omega)
                refine (HIH.out mid (mid + m - j) b d1 w2 (by omega) (E1.fr F2) R2 l2 (by omega) hw hb (ex_out g3 m3 (Or.inr (by omega))) (ex_out g4 m3 (Or.inr (by omega))) _ _ _ (by omega) (by omega) rfl).mono ?_
                rintro e w4 ⟨rfl, F4, d3, R4, l4, m4, p4⟩
                have Z := sym_end key m3 m4 p3 p4 G5.out
                have HZ : Hid (Moved key a b d d3 ∧ ∃ k, Parted key z0 d3 a b k) := ⟨GM.out.trans key Z.1, Z.2⟩
                clear Z m3 m4 p3 p4 g1 g2 g3 g4 GM G5 HIH HS
                go_wp2
                go_end0
                exact ⟨rfl, F1.trans (F2.trans F4), d3, R4, l4, HZ.out.1, HZ.out.2⟩
              · skip
                clear HX
                go_wp2_with fail
                refine (rotate54_at V blk n j m (mid + m - j) H d w1 HS.out R1 hn hx (by omega) (by omega) hnb _ _ _ rfl rfl (by omega)).mono ?_
                rintro e w2 ⟨rfl, F2, d1, R2, l2, g2⟩
                rw [show mid + m - j - m = mid - j by omega] at g2
                have G := HQ7.out d1 g2
                clear g2
                obtain ⟨gm, g1, g2, g3, g4, g5⟩ := G
                have GM : Hid (Moved key a b d d1) := gm
                have G5 : Hid _ := g5
                clear gm g5 HQ7
                have m3 : Moved key a mid d1 d1 := Moved.refl key d1 (by omega) (by omega)
                have p3 := parted_join key g1 g2 (by omega)
                have m4 : Moved key mid b d1 d1 := Moved.refl key d1 (by omega) (by omega)
                have p4 := parted_join key (ex_out g3 m3 (Or.inr (by omega))) (ex_out g4 m3 (Or.inr (by omega))) (by omega)
                have Z := sym_end key m3 m4 p3 p4 G5.out
                have HZ : Hid (Moved key a b d d1 ∧ ∃ k, Parted key z0 d1 a b k) := ⟨GM.out.trans key Z.1, Z.2⟩
                clear Z m3 m4 p3 p4 g1 g2 g3 g4 GM G5 HIH HS
                go_wp2
                go_end0
                exact ⟨rfl, F1.trans F2, d1, R2, l2, HZ.out.1, HZ.out.2⟩
          · skip
            by_cases hz : a < j
            · skip
              by_cases hw : mid + m - j < b
              · skip
                clear HX
                go_wp2_with fail
                have G := HQ7.out d (fun t => by rw [show mid - j = 0 by omega, rtI_y])
                obtain ⟨gm, g1, g2, g3, g4, g5⟩ := G
                have GM : Hid (Moved key a b d d) := gm
                have G5 : Hid _ := g5
                clear gm g5 HQ7
                have m3 : Moved key a mid d d := Moved.refl key d (by omega) (by omega)
                have p3 := parted_join key g1 g2 (by omega)
                refine (HIH.out mid (mid + m - j) b d w1 (by omega) (E1.fr (Fr.refl blk w1)) R1 hn (by omega) hw hb (ex_out g3 m3 (Or.inr (by omega))) (ex_out g4 m3 (Or.inr (by omega))) _ _ _ (by omega) (by omega) rfl).mono ?_
                rintro e w4 ⟨rfl, F4, d3, R4, l4, m4, p4⟩
                have Z := sym_end key m3 m4 p3 p4 G5.out
                have HZ : Hid (Moved key a b d d3 ∧ ∃ k, Parted key z0 d3 a b k) := ⟨GM.out.trans key Z.1, Z.2⟩
                clear Z m3 m4 p3 p4 g1 g2 g3 g4 GM G5 HIH HS
                go_wp2
                go_end0
                exact ⟨rfl, F1.trans ((Fr.refl blk w1).trans F4), d3, R4, l4, HZ.out.1, HZ.out.2⟩
              · skip
                exfalso; omega
            · skip
              by_cases hw : mid + m - j < b
              · skip
                exfalso; omega
              · skip
                exfalso; omega
        · skip
          by_cases hy : j < mid
          · skip
            by_cases hz : a < j
            · skip
              clear HX
              go_wp2_with fail
              have G := HQ7.out d (fun t => by rw [show m - j = 0 by omega, rtI_x])
              obtain ⟨gm, g1, g2, g3, g4, g5⟩ := G
              have GM : Hid (Moved key a b d d) := gm
              have G5 : Hid _ := g5
              clear gm g5 HQ7
              refine (HIH.out a j mid d w1 (by omega) (E1.fr (Fr.refl blk w1)) R1 hn hz hy (by omega) g1 g2 _ _ _ rfl rfl (by omega)).mono ?_
              rintro e w3 ⟨rfl, F3, d2, R3, l3, m3, p3⟩
              have F23 : Fr blk w1 w3 := (Fr.refl blk w1).trans F3
              have m4 : Moved key mid b d2 d2 := Moved.refl key d2 (by omega) (by omega)
              have p4 := parted_join key (ex_out g3 m3 (Or.inr (by omega))) (ex_out g4 m3 (Or.inr (by omega))) (by omega)
              have Z := sym_end key m3 m4 p3 p4 G5.out
              have HZ : Hid (Moved key a b d d2 ∧ ∃ k, Parted key z0 d2 a b k) := ⟨GM.out.trans key Z.1, Z.2⟩
              clear Z m3 m4 p3 p4 g1 g2 g3 g4 GM G5 HIH HS
              go_wp2
              go_end0
              exact ⟨rfl, F1.trans F23, d2, R3, l3, HZ.out.1, HZ.out.2⟩
            · skip
              exfalso; omega
          · skip
            by_cases hz : a < j
            · skip
              clear HX
              go_wp2_with fail
              have G := HQ7.out d (fun t => by rw [show m - j = 0 by omega, rtI_x])
              obtain ⟨gm, g1, g2, g3, g4, g5⟩ := G
              have GM : Hid (Moved key a b d d) := gm
              have G5 : Hid _ := g5
              clear gm g5 HQ7
              have m3 : Moved key a mid d d := Moved.refl key d (by omega) (by omega)
              have p3 := parted_join key g1 g2 (by omega)
              have m4 : Moved key mid b d d := Moved.refl key d (by omega) (by omega)
              have p4 := parted_join key (ex_out g3 m3 (Or.inr (by omega))) (ex_out g4 m3 (Or.inr (by omega))) (by omega)
              have Z := sym_end key m3 m4 p3 p4 G5.out
              have HZ : Hid (Moved key a b d d ∧ ∃ k, Parted key z0 d a b k) := ⟨GM.out.trans key Z.1, Z.2⟩
              clear Z m3 m4 p3 p4 g1 g2 g3 g4 GM G5 HIH HS
              go_wp2
              go_end0
              exact ⟨rfl, F1.trans (Fr.refl blk w1), d, R1, hn, HZ.out.1, HZ.out.2⟩
            · skip
              exfalso; omega
end Go.Proofs.Qxb6615667a.Srt
