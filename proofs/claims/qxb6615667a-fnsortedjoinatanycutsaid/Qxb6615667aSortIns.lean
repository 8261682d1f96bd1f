import Derived.Test.Qxb6615667aSortRot
namespace Go.Proofs.Qxb6615667a.Srt
open Go.ChangeShapes Go.WideShapes Go.ChangeAt Go.RowKit Plain

theorem less35_at (V L blk n i j : Nat) (d : List Fd) (w : World) (hE : Env V L blk n w) (hR : Row w blk d) (hn : d.length = n) (hi : i < n) (hj : j < n) (c : Bool) (hc : ls key z0 d i j = c) (ii jj : Int) (ei : ii = (i : Int)) (ej : jj = (j : Int)) :
    Calls Try.prog 35 #[.int .i64 ii, .int .i64 jj, .pointer (some ⟨V, 0, none⟩)] w fun e w' => e = .returned (.bool c) ∧ w' = w := by
  subst ei ej
  rw [← hc]
  exact less35 V L blk n i j d w hE hR hn hi hj

theorem ins_start {d : List Fd} {a b : Nat} (hab : a ≤ b) (hb : b ≤ d.length) : Moved key a (min (a + 1) b) d d ∧ ∃ k, Parted key z0 d a (min (a + 1) b) k := by
  refine ⟨Moved.refl key d (by omega) (by omega), ?_⟩
  by_cases h : a < b
  · rw [show min (a + 1) b = a + 1 by omega]
    cases hm : mu key z0 d a with
    | true => exact ⟨a + 1, by omega, by omega, fun t t1 t2 => by rw [show t = a by omega]; exact hm, fun t t1 t2 => by omega⟩
    | false => exact ⟨a, by omega, by omega, fun t t1 t2 => by omega, fun t t1 t2 => by rw [show t = a by omega]; exact hm⟩
  · exact ⟨a, by omega, by omega, fun t t1 t2 => by omega, fun t t1 t2 => by omega⟩

set_option maxHeartbeats 2000000 in
set_option maxRecDepth 100000 in
/-- insertionSort: the stretch from a on and before b is put into the stable order. -/
theorem insertion52 (V L blk n a b : Nat) (H : Value) (d : List Fd) (w : World) (hE : Env V L blk n w) (hsw : SwapOk H blk n) (hR : Row w blk d) (hn : d.length = n) (hab : a ≤ b) (hb : b ≤ n) (hnb : n ≤ 21845) :
    Calls Try.prog 52 #[.agg #[.func (.func 35) #[] #[.pointer (some ⟨V, 0, none⟩)], .func (.func 51) #[] #[.slice (some ⟨blk, 0, none⟩) n n, H]], .int .i64 a, .int .i64 b] w fun e w' => e = .returned (.tuple #[]) ∧ Fr blk w w' ∧ ∃ d', Row w' blk d' ∧ d'.length = n ∧ Moved key a b d d' ∧ ∃ k, Parted key z0 d' a b k := by
  have hlt := hR.lt
  obtain ⟨w1, hw1⟩ : ∃ w1, w1 = w.alloc (.cells #[.func (.func 35) #[] #[.pointer (some ⟨V, 0, none⟩)], .func (.func 51) #[] #[.slice (some ⟨blk, 0, none⟩) n n, H]] 87) := ⟨_, rfl⟩
  have c0 : w1.cell? ⟨w.heap.size, 0, none⟩ = some (.func (.func 35) #[] #[.pointer (some ⟨V, 0, none⟩)]) := by rw [hw1]; simp
  have c1 : w1.cell? ⟨w.heap.size, 1, none⟩ = some (.func (.func 51) #[] #[.slice (some ⟨blk, 0, none⟩) n n, H]) := by rw [hw1]; simp
  have z1 : w.heap.size < w1.heap.size := by rw [hw1]; simp
  have R1 : Row w1 blk d := by rw [hw1]; exact hR.alloc _
  have F1 : Fr blk w w1 := by rw [hw1]; exact Fr.alloc _ _
  have E1 : Env V L blk n w1 := hE.fr F1
  have HW : Hid (w1 = w.alloc (.cells #[.func (.func 35) #[] #[.pointer (some ⟨V, 0, none⟩)], .func (.func 51) #[] #[.slice (some ⟨blk, 0, none⟩) n n, H]] 87)) := hw1
  have HS : Hid (SwapOk H blk n) := hsw
  have S0 := ins_start hab (show b ≤ d.length by omega)
  clear hw1 hsw hR hE
  go_enter Try.func52, Try.ntmps52
  go_wp2
  rw [← HW.out]
  clear HW
  generalize w.heap.size = B at *
  go_loopw [6] (fun vi wr => ∃ (i : Nat) (dk : List Fd), vi = .int .i64 i ∧ a + 1 ≤ i ∧ i ≤ max b (a + 1) ∧ Row wr blk dk ∧ dk.length = n ∧ Fr blk w1 wr ∧ Moved key a (min i b) d dk ∧ ∃ k, Parted key z0 dk a (min i b) k) (fun vi _ => n + 1 - (intOf vi).toNat)
  case atStart => exact ⟨a + 1, d, by go_num, by omega, by omega, R1, hn, Fr.refl _ _, S0.1, S0.2⟩
  case round =>
    obtain ⟨i, dk, rfl, hai, hib, Rk, hlk, Fk, hmv, k1, hpa⟩ := hrel
    by_cases hi : i < b
    · rw [show min i b = i by omega] at hmv hpa
      obtain ⟨K, q1, q2, q3, q4⟩ := right_K key hpa
      have I0 := inv2_start key (show i < dk.length by omega) hpa q1 q2 q4
      have HM : Hid (Moved key a i d dk) := hmv
      clear hmv hpa q3 q4 S0 R1
      go_wp2
      go_loopw [7] (fun vj wr2 => ∃ (j : Nat) (dj : List Fd), vj = .int .i64 j ∧ Row wr2 blk dj ∧ dj.length = n ∧ Fr blk w1 wr2 ∧ Inv2 key z0 dk a i K dj j) (fun vj _ => (intOf vj).toNat)
      case atStart => exact ⟨i, dk, rfl, Rk, hlk, Fk, I0⟩
      case round =>
        obtain ⟨j, dj, rfl, Rj, hlj, Fj, hI⟩ := hrel
        have o1 : K ≤ j := hI.2.2.1
        have o2 : j ≤ i := hI.2.2.2.1
        have k0 : wr.cell? ⟨B, 0, none⟩ = some (.func (.func 35) #[] #[.pointer (some ⟨V, 0, none⟩)]) := (Fj.cell z1 (by omega)).trans c0
        have k1 : wr.cell? ⟨B, 1, none⟩ = some (.func (.func 51) #[] #[.slice (some ⟨blk, 0, none⟩) n n, H]) := (Fj.cell z1 (by omega)).trans c1
        have Ej : Env V L blk n wr := E1.fr Fj
        clear I0 Rk Fk hlk
        by_cases hKj : K < j
        · have hls := inv2_yes key hI hKj
          have hI2 := inv2_step key hI hKj
          obtain ⟨w2, hrun, R2, F2⟩ := HS.out dj wr j (j - 1) Rj hlj (by omega) (by omega)
          rw [show ((j - 1 : Nat) : Int) = (j : Int) - 1 by omega] at hrun
          have HR : Hid (Row w2 blk (swp z0 dj j (j - 1)) ∧ (swp z0 dj j (j - 1)).length = n ∧ Fr blk w1 w2 ∧ Inv2 key z0 dk a i K (swp z0 dj j (j - 1)) (j - 1)) :=
            ⟨R2, by rw [swp_length]; exact hlj, Fj.trans F2, hI2⟩
          have HLS : Hid (ls key z0 dj j (j - 1) = true) := hls
          clear R2 F2 hI2 hI hls
          have hja : (a : Int) < (j : Int) := by omega
          go_wp2_with (go_at_call 35; refine (less35_at V L blk n j (j - 1) dj wr Ej Rj hlj (by omega) (by omega) true HLS.out _ _ (by omega) (by omega)).mono ?_; rintro e w' ⟨rfl, rfl⟩)
          go_roundw
          case rel => exact ⟨j - 1, _, by go_num, HR.out.1, HR.out.2.1, HR.out.2.2.1, HR.out.2.2.2⟩
          case measure => simp [intOf]; omega
        · have hjK : j = K := by omega
          have hE2 := inv2_end key hI hjK
          have HE2 : Hid (Moved key a (i + 1) d dj ∧ ∃ kk, Parted key z0 dj a (i + 1) kk) := ⟨(HM.out.mono key (Nat.le_refl _) (by omega) (by omega)).trans key hE2.1, hE2.2⟩
          by_cases haj : a < j
          · have hls := inv2_no key hI hjK haj
            have HLS : Hid (ls key z0 dj j (j - 1) = false) := hls
            have hja : (a : Int) < (j : Int) := by omega
            have hjK' : K ≤ j := by omega
            clear hE2 hI hls hjK
            go_wp2_with (go_at_call 35; refine (less35_at V L blk n j (j - 1) dj wr Ej Rj hlj (by omega) (by omega) false HLS.out _ _ (by omega) (by omega)).mono ?_; rintro e w' ⟨rfl, rfl⟩)
            go_roundw
            case rel => exact ⟨i + 1, dj, by go_num, by omega, by omega, Rj, hlj, Fj, by rw [show min (i + 1) b = i + 1 by omega]; exact HE2.out.1, by rw [show min (i + 1) b = i + 1 by omega]; exact HE2.out.2⟩
            case measure => simp [intOf]; omega
          · have hja : ¬ (a : Int) < (j : Int) := by omega
            clear hE2 hI hjK
            go_wp2
            go_roundw
            case rel => exact ⟨i + 1, dj, by go_num, by omega, by omega, Rj, hlj, Fj, by rw [show min (i + 1) b = i + 1 by omega]; exact HE2.out.1, by rw [show min (i + 1) b = i + 1 by omega]; exact HE2.out.2⟩
            case measure => simp [intOf]; omega
    · rw [show min i b = b by omega] at hmv hpa
      have HM : Hid (Moved key a b d dk ∧ ∃ k, Parted key z0 dk a b k) := ⟨hmv, k1, hpa⟩
      clear hmv hpa S0
      go_wp2
      go_end0
      exact ⟨rfl, F1.trans Fk, dk, Rk, hlk, HM.out.1, HM.out.2⟩
end Go.Proofs.Qxb6615667a.Srt
