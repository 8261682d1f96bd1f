import Derived.Test.Qxb6615667aSortIns
namespace Go.Proofs.Qxb6615667a.Srt
open Go.ChangeShapes Go.WideShapes Go.ChangeAt Go.RowKit Plain

set_option maxHeartbeats 2000000 in
set_option maxRecDepth 100000 in
/-- symMerge, one element on the left. -/
theorem sym53_left (V L blk n a b : Nat) (H : Value) (d : List Fd) (w : World) (hE : Env V L blk n w) (hsw : SwapOk H blk n) (hR : Row w blk d) (hn : d.length = n) (hmb : a + 1 < b) (hb : b ≤ n) (hnb : n ≤ 21845) (k2 : Nat) (hP : Parted key z0 d (a + 1) b k2) :
    Calls Try.prog 53 #[.agg #[.func (.func 35) #[] #[.pointer (some ⟨V, 0, none⟩)], .func (.func 51) #[] #[.slice (some ⟨blk, 0, none⟩) n n, H]], .int .i64 a, .int .i64 ((a : Int) + 1), .int .i64 b] w fun e w' => e = .returned (.tuple #[]) ∧ Fr blk w w' ∧ ∃ d', Row w' blk d' ∧ d'.length = n ∧ Moved key a b d d' ∧ ∃ k, Parted key z0 d' a b k := by
  have hlt := hR.lt
  obtain ⟨w1, hw1⟩ : ∃ w1, w1 = w.alloc (.cells #[.func (.func 35) #[] #[.pointer (some ⟨V, 0, none⟩)], .func (.func 51) #[] #[.slice (some ⟨blk, 0, none⟩) n n, H]] 87) := ⟨_, rfl⟩
  have c0 : w1.cell? ⟨w.heap.size, 0, none⟩ = some (.func (.func 35) #[] #[.pointer (some ⟨V, 0, none⟩)]) := by rw [hw1]; simp
  have c1 : w1.cell? ⟨w.heap.size, 1, none⟩ = some (.func (.func 51) #[] #[.slice (some ⟨blk, 0, none⟩) n n, H]) := by rw [hw1]; simp
  have z1 : w.heap.size < w1.heap.size := by rw [hw1]; simp
  have R1 : Row w1 blk d := by rw [hw1]; exact hR.alloc _
  have F1 : Fr blk w w1 := by rw [hw1]; exact Fr.alloc _ _
  have E1 : Env V L blk n w1 := hE.fr F1
  have HW : Hid (w1 = w.alloc (.cells #[.func (.func 35) #[] #[.pointer (some ⟨V, 0, none⟩)], .func (.func 51) #[] #[.slice (some ⟨blk, 0, none⟩) n n, H]] 87)) := hw1
  have HS : Hid (SwapOk H blk n) := hsw
  obtain ⟨K, q1, q2, q3, q4⟩ := left_K key hP
  have I0 := inv1_start key (show b ≤ d.length by omega) hP q1 q2 q4
  have HI0 : Hid (Inv1 key z0 d a b K d a) := I0
  have HQ3 : Hid (∀ h, a + 1 ≤ h → h < b → (ls key z0 d h a = true ↔ h < K)) := q3
  clear hw1 hsw hR hE q3 q4 hP I0
  have ht : ((a : Int) + 1 - (a : Int) == 1) = true := beq_iff_eq.2 (by omega)
  go_enter Try.func53, Try.ntmps53
  go_wp2
  rw [← HW.out]
  clear HW
  generalize w.heap.size = B at *
  go_loopw [8, 9] (fun vi vj wr => ∃ i j : Nat, vi = .int .i64 i ∧ vj = .int .i64 j ∧ a + 1 ≤ i ∧ i ≤ K ∧ K ≤ j ∧ j ≤ b ∧ w1 = wr) (fun vi vj _ => (intOf vj).toNat - (intOf vi).toNat)
  case atStart => exact ⟨a + 1, b, by go_num, rfl, Nat.le_refl _, q1, q2, Nat.le_refl _, rfl⟩
  case round =>
    obtain ⟨i, j, rfl, rfl, i1, i2, i3, i4, rfl⟩ := hrel
    by_cases hij : i < j
    · by_cases hh : (i + j) / 2 < K
      · have HL : Hid (ls key z0 d ((i + j) / 2) a = true) := (HQ3.out _ (by omega) (by omega)).2 hh
        go_wp2_with (go_at_call 35; refine (less35_at V L blk n ((i + j) / 2) a d w1 E1 R1 hn (by omega) (by omega) true HL.out _ _ (by omega) (by omega)).mono ?_; rintro e w' ⟨rfl, rfl⟩)
        go_roundw
        case rel => exact ⟨(i + j) / 2 + 1, j, by go_num, rfl, by omega, by omega, i3, i4, by simp⟩
        case measure => simp [intOf]; omega
      · have HL : Hid (ls key z0 d ((i + j) / 2) a = false) := by
          show ls key z0 d ((i + j) / 2) a = false
          have := mt (HQ3.out ((i + j) / 2) (by omega) (by omega)).1 hh
          simpa using this
        go_wp2_with (go_at_call 35; refine (less35_at V L blk n ((i + j) / 2) a d w1 E1 R1 hn (by omega) (by omega) false HL.out _ _ (by omega) (by omega)).mono ?_; rintro e w' ⟨rfl, rfl⟩)
        go_roundw
        case rel => exact ⟨i, (i + j) / 2, rfl, by go_num, i1, i2, by omega, by omega, by simp⟩
        case measure => simp [intOf]; omega
    · have e1 : i = K := by omega
      have e2 : j = K := by omega
      subst e1 e2
      go_wp2
      go_loopw [11] (fun vk wr2 => ∃ (k : Nat) (dk : List Fd), vk = .int .i64 k ∧ Row wr2 blk dk ∧ dk.length = n ∧ Fr blk w1 wr2 ∧ Inv1 key z0 d a b j dk k) (fun vk _ => n - (intOf vk).toNat)
      case atStart => exact ⟨a, d, rfl, R1, hn, Fr.refl _ _, HI0.out⟩
      case round =>
        obtain ⟨k, dk, rfl, Rk, hlk, Fk, hI⟩ := hrel
        have o1 : a ≤ k := hI.2.1
        have o2 : k < j := hI.2.2.1
        by_cases hk : k + 1 < j
        · have k1 := (Fk.cell (o := 1) z1 (by omega)).trans c1
          have hI2 := inv1_step key hI hk
          obtain ⟨w2, hrun, R2, F2⟩ := HS.out dk _ k (k + 1) Rk hlk (by omega) (by omega)
          rw [show ((k + 1 : Nat) : Int) = (k : Int) + 1 by omega] at hrun
          have HR : Hid (Row w2 blk (swp z0 dk k (k + 1)) ∧ (swp z0 dk k (k + 1)).length = n ∧ Fr blk w1 w2 ∧ Inv1 key z0 d a b j (swp z0 dk k (k + 1)) (k + 1)) :=
            ⟨R2, by rw [swp_length]; exact hlk, Fk.trans F2, hI2⟩
          have hk' : (k : Int) < (j : Int) - 1 := by omega
          clear R2 F2 hI2 hI hlk Fk Rk
          go_wp2
          go_roundw
          case rel => exact ⟨k + 1, _, by go_num, HR.out.1, HR.out.2.1, HR.out.2.2.1, HR.out.2.2.2⟩
          case measure => simp [intOf]; omega
        · have hE := inv1_end key hI hk
          have HE : Hid (Moved key a b d dk ∧ ∃ kk, Parted key z0 dk a b kk) := hE
          have hk' : ¬ (k : Int) < (j : Int) - 1 := by omega
          clear hE hI
          go_wp2
          refine bodyPost_ret (results_none rfl _ _ _) rfl ?_
          exact ⟨rfl, F1.trans Fk, dk, Rk, hlk, HE.out.1, HE.out.2⟩
end Go.Proofs.Qxb6615667a.Srt
