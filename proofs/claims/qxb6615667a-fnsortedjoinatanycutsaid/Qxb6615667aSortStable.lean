import Derived.Test.Qxb6615667aSortSym
namespace Go.Proofs.Qxb6615667a.Srt
open Go.ChangeShapes Go.WideShapes Go.ChangeAt Go.RowKit Plain

/-- symMerge at every stretch. -/
theorem sym53 (V L blk n : Nat) (H : Value) (hsw : SwapOk H blk n) (hnb : n ≤ 21845) : ∀ N, SymOk V L blk n H N := by
  intro N
  induction N with
  | zero => intro a m b d w hN; intros; omega
  | succ N ih =>
    intro a m b d w hN hE hR hn h1 h2 hb hp hp2 ia im ib ea em eb
    subst ea em eb
    obtain ⟨k1, hP⟩ := hp
    obtain ⟨k2, hP2⟩ := hp2
    by_cases c1 : m = a + 1
    · subst c1
      rw [show ((a + 1 : Nat) : Int) = (a : Int) + 1 by omega]
      exact sym53_left V L blk n a b H d w hE hsw hR hn h2 hb hnb k2 hP2
    · by_cases c2 : b = m + 1
      · subst c2
        rw [show ((m + 1 : Nat) : Int) = (m : Int) + 1 by omega]
        exact sym53_right V L blk n a m H d w hE hsw hR hn (by omega) hb hnb k1 hP
      · exact sym53_gen V L blk n a m b N H d w ih hN hE hsw hR hn (by omega) (by omega) hb hnb k1 k2 hP hP2

theorem insertion52_at (V L blk n a b : Nat) (H : Value) (d : List Fd) (w : World) (hE : Env V L blk n w) (hsw : SwapOk H blk n) (hR : Row w blk d) (hn : d.length = n) (hab : a ≤ b) (hb : b ≤ n) (hnb : n ≤ 21845) (ia ib : Int) (ea : ia = (a : Int)) (eb : ib = (b : Int)) :
    Calls Try.prog 52 #[.agg #[.func (.func 35) #[] #[.pointer (some ⟨V, 0, none⟩)], .func (.func 51) #[] #[.slice (some ⟨blk, 0, none⟩) n n, H]], .int .i64 ia, .int .i64 ib] w fun e w' => e = .returned (.tuple #[]) ∧ Fr blk w w' ∧ ∃ d', Row w' blk d' ∧ d'.length = n ∧ Moved key a b d d' ∧ ∃ k, Parted key z0 d' a b k := by
  subst ea eb
  exact insertion52 V L blk n a b H d w hE hsw hR hn hab hb hnb

set_option maxHeartbeats 8000000 in
set_option maxRecDepth 100000 in
/-- stable_func: the whole row in the stable order. -/
theorem stable40 (V L blk n : Nat) (H : Value) (d : List Fd) (w : World) (hE : Env V L blk n w) (hsw : SwapOk H blk n) (hR : Row w blk d) (hn : d.length = n) (h1 : 1 ≤ n) (hnb : n ≤ 21845) :
    Calls Try.prog 40 #[.agg #[.func (.func 35) #[] #[.pointer (some ⟨V, 0, none⟩)], .func (.func 51) #[] #[.slice (some ⟨blk, 0, none⟩) n n, H]], .int .i64 n] w fun e w' => e = .returned (.tuple #[]) ∧ Fr blk w w' ∧ ∃ d', Row w' blk d' ∧ d'.length = n ∧ Moved key 0 n d d' ∧ ∃ k, Parted key z0 d' 0 n k := by
  have hlt := hR.lt
  obtain ⟨w1, hw1⟩ : ∃ w1, w1 = w.alloc (.cells #[.func (.func 35) #[] #[.pointer (some ⟨V, 0, none⟩)], .func (.func 51) #[] #[.slice (some ⟨blk, 0, none⟩) n n, H]] 87) := ⟨_, rfl⟩
  have c0 : w1.cell? ⟨w.heap.size, 0, none⟩ = some (.func (.func 35) #[] #[.pointer (some ⟨V, 0, none⟩)]) := by rw [hw1]; simp
  have c1 : w1.cell? ⟨w.heap.size, 1, none⟩ = some (.func (.func 51) #[] #[.slice (some ⟨blk, 0, none⟩) n n, H]) := by rw [hw1]; simp
  have z1 : w.heap.size < w1.heap.size := by rw [hw1]; simp
  have R1 : Row w1 blk d := by rw [hw1]; exact hR.alloc _
  have F1 : Fr blk w w1 := by rw [hw1]; exact Fr.alloc _ _
  have E1 : Env V L blk n w1 := hE.fr F1
  have HW : Hid (w1 = w.alloc (.cells #[.func (.func 35) #[] #[.pointer (some ⟨V, 0, none⟩)], .func (.func 51) #[] #[.slice (some ⟨blk, 0, none⟩) n n, H]] 87)) := hw1
  have HS : Hid (SwapOk H blk n) := hsw
  have HSY : Hid (∀ N, SymOk V L blk n H N) := sym53 V L blk n H hsw hnb
  clear hw1 hsw hR hE
  go_enter Try.func40, Try.ntmps40
  go_wp2
  rw [← HW.out]
  clear HW
  generalize w.heap.size = B at *
  go_loopw [5, 6] (fun va vb wr => ∃ (c x : Nat) (dk : List Fd), va = .int .i64 x ∧ vb = .int .i64 ((x : Int) + 20) ∧ Hid (x = c * 20) ∧ x ≤ n ∧ Row wr blk dk ∧ dk.length = n ∧ Fr blk w1 wr ∧ Moved key 0 n d dk ∧ Dn key z0 dk 20 c) (fun va _ _ => n - (intOf va).toNat)
  case atStart => exact ⟨0, 0, d, rfl, rfl, (by show 0 = 0 * 20; omega), Nat.zero_le _, R1, hn, Fr.refl _ _, Moved.refl key d (Nat.zero_le _) (by omega), fun q hq => absurd hq (Nat.not_lt_zero _)⟩
  case round =>
    obtain ⟨c, x, dk, rfl, rfl, HX, hxn, Rk, hlk, Fk, hmv, hdn⟩ := hrel
    have k0 := (Fk.cell (o := 0) z1 (by omega)).trans c0
    have k1 := (Fk.cell (o := 1) z1 (by omega)).trans c1
    by_cases hx : x + 20 ≤ n
    · have HM : Hid (Moved key 0 n d dk ∧ Dn key z0 dk 20 c) := ⟨hmv, hdn⟩
      clear hmv hdn
      go_wp2_with (go_at_call 52; refine (insertion52_at V L blk n x (x + 20) H dk _ (E1.fr Fk) HS.out Rk hlk (by omega) hx hnb _ _ rfl (by omega)).mono ?_; rintro e w2 ⟨rfl, F2, d2, R2, l2, m2, q2⟩)
      go_roundw
      case rel =>
        obtain ⟨kk, q2⟩ := q2
        have hX := HX.out
        refine ⟨c + 1, x + 20, d2, by go_num, by go_num, (by show x + 20 = (c + 1) * 20; omega), hx, R2, l2, Fk.trans F2, HM.out.1.trans key (m2.mono key (Nat.zero_le _) hx (by omega)), ?_⟩
        exact (HM.out.2.out key m2 (by omega)).more key kk (by rw [show c * 20 = x by omega]; exact q2)
      case measure => simp [intOf]; omega
    · have HM : Hid (Moved key 0 n d dk ∧ Dn key z0 dk 20 c) := ⟨hmv, hdn⟩
      clear hmv hdn
      go_wp2_with fail
      refine (insertion52_at V L blk n x n H dk _ (E1.fr Fk) HS.out Rk hlk hxn (Nat.le_refl _) hnb _ _ rfl rfl).mono ?_
      rintro e w2 ⟨rfl, F2, d2, R2, l2, m2, q2⟩
      have hB : Bl key z0 d2 20 0 n := by
        have hX := HX.out
        exact (HM.out.2.out key m2 (by omega)).all key (by omega) (fun _ => by rw [show c * 20 = x by omega]; exact q2)
      have HB : Hid (Moved key 0 n d d2 ∧ Bl key z0 d2 20 0 n) := ⟨HM.out.1.trans key (m2.mono key (Nat.zero_le _) (Nat.le_refl _) (by omega)), hB⟩
      have F3 : Fr blk w1 w2 := Fk.trans F2
      clear hB q2 m2 HM HX Rk hlk k0 k1 Fk F2 R1
      go_wp2
      go_loopw [4] (fun v4 wr => ∃ (bs : Nat) (dk : List Fd), v4 = .int .i64 bs ∧ 20 ≤ bs ∧ bs ≤ 100000 ∧ Row wr blk dk ∧ dk.length = n ∧ Fr blk w1 wr ∧ Hid (Moved key 0 n d dk ∧ Bl key z0 dk bs 0 n)) (fun v4 _ => n - (intOf v4).toNat)
      case atStart => exact ⟨20, d2, rfl, Nat.le_refl _, by omega, R2, l2, F3, HB⟩
      case round =>
        obtain ⟨bs, d3, rfl, hb1, hb2, R3, l3, F4, HM3⟩ := hrel
        clear HB R2 l2 F3
        by_cases hbn : bs < n
        · go_wp2
          go_loopw [5, 6] (fun va vb wr => ∃ (c x : Nat) (dk : List Fd), va = .int .i64 x ∧ vb = .int .i64 ((x : Int) + 2 * bs) ∧ Hid (x = c * (2 * bs)) ∧ x ≤ n ∧ Row wr blk dk ∧ dk.length = n ∧ Fr blk w1 wr ∧ Hid (Moved key 0 n d dk ∧ Dn key z0 dk (2 * bs) c ∧ Bl key z0 dk bs x n)) (fun va _ _ => n - (intOf va).toNat)
          case atStart => exact ⟨0, 0, d3, rfl, by go_num, (by show 0 = 0 * (2 * bs); rw [Nat.zero_mul]), Nat.zero_le _, R3, l3, F4, ⟨HM3.out.1, fun q hq => absurd hq (Nat.not_lt_zero _), HM3.out.2⟩⟩
          case round =>
            obtain ⟨c, x, dk, rfl, rfl, HX, hxn, Rk, hlk, Fk, HM⟩ := hrel
            clear HM3 R3 l3 F4
            have k0 := (Fk.cell (o := 0) z1 (by omega)).trans c0
            have k1 := (Fk.cell (o := 1) z1 (by omega)).trans c1
            by_cases hx : x + 2 * bs ≤ n
            · have p1 : ∃ k, Parted key z0 dk x (x + bs) k := by
                have := HM.out.2.2.head key (by omega)
                rwa [show min (x + bs) n = x + bs by omega] at this
              have p2 : ∃ k, Parted key z0 dk (x + bs) (x + 2 * bs) k := by
                have := (HM.out.2.2.tail key).head key (by omega)
                rwa [show min (x + bs + bs) n = x + 2 * bs by omega] at this
              go_wp2_with (go_at_call 53; refine (HSY.out n x (x + bs) (x + 2 * bs) dk _ (by omega) (E1.fr Fk) Rk hlk (by omega) (by omega) hx p1 p2 _ _ _ rfl (by omega) (by omega)).mono ?_; rintro e w2 ⟨rfl, F2, d4, R4, l4, m4, q4⟩)
              go_roundw
              case rel =>
                obtain ⟨kk, q4⟩ := q4
                have hX := HX.out
                have hs : (c + 1) * (2 * bs) = c * (2 * bs) + 2 * bs := Nat.succ_mul c (2 * bs)
                refine ⟨c + 1, x + 2 * bs, d4, by go_num, by go_num, (by show x + 2 * bs = (c + 1) * (2 * bs); omega), hx, R4, l4, Fk.trans F2, ⟨HM.out.1.trans key (m4.mono key (Nat.zero_le _) hx (by omega)), ?_, ?_⟩⟩
                · exact (HM.out.2.1.out key m4 (by omega)).more key kk (by rw [← hX]; exact q4)
                · have := ((HM.out.2.2.tail key).tail key)
                  rw [show x + bs + bs = x + 2 * bs by omega] at this
                  exact this.out key m4 (Nat.le_refl _)
              case measure => simp [intOf]; omega
            · by_cases hm : x + bs < n
              · have p1 : ∃ k, Parted key z0 dk x (x + bs) k := by
                  have := HM.out.2.2.head key (by omega)
                  rwa [show min (x + bs) n = x + bs by omega] at this
                have p2 : ∃ k, Parted key z0 dk (x + bs) n k := by
                  have := (HM.out.2.2.tail key).head key (by omega)
                  rwa [show min (x + bs + bs) n = n by omega] at this
                go_wp2_with (go_at_call 53; refine (HSY.out n x (x + bs) n dk _ (by omega) (E1.fr Fk) Rk hlk (by omega) hm (Nat.le_refl _) p1 p2 _ _ _ rfl (by omega) rfl).mono ?_; rintro e w2 ⟨rfl, F2, d4, R4, l4, m4, q4⟩)
                go_roundw
                case rel =>
                  have hX := HX.out
                  refine ⟨2 * bs, d4, by go_num, by omega, by omega, R4, l4, Fk.trans F2, ⟨HM.out.1.trans key (m4.mono key (Nat.zero_le _) (Nat.le_refl _) (by omega)), ?_⟩⟩
                  exact (HM.out.2.1.out key m4 (by omega)).all key (by omega) (fun _ => by rw [← hX]; exact q4)
                case measure => simp [intOf]; omega
              · go_wp2
                go_roundw
                case rel =>
                  have hX := HX.out
                  refine ⟨2 * bs, dk, by go_num, by omega, by omega, Rk, hlk, Fk, ⟨HM.out.1, ?_⟩⟩
                  refine HM.out.2.1.all key (by omega) (fun h => ?_)
                  have := HM.out.2.2.head key (by omega)
                  rw [show min (x + bs) n = n by omega] at this
                  rw [← hX]; exact this
                case measure => simp [intOf]; omega
        · have hfin : ∃ k, Parted key z0 d3 0 n k := by
            have := HM3.out.2.head key (by omega)
            rwa [show min (0 + bs) n = n by omega] at this
          have HF : Hid (Moved key 0 n d d3 ∧ ∃ k, Parted key z0 d3 0 n k) := ⟨HM3.out.1, hfin⟩
          clear hfin HM3
          go_wp2
          go_end0
          exact ⟨rfl, F1.trans F4, d3, R3, l3, HF.out.1, HF.out.2⟩
end Go.Proofs.Qxb6615667a.Srt
