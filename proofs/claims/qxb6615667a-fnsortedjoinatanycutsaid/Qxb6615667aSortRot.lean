import Derived.Test.Qxb6615667aSortEnv
namespace Go.Proofs.Qxb6615667a.Srt
open Go.ChangeShapes Go.WideShapes Go.ChangeAt Go.RowKit Plain

set_option maxHeartbeats 1000000 in
set_option maxRecDepth 100000 in
/-- swapRange: the k elements from a on and the k from b on change places. -/
theorem swapRange55 (V blk n a b k : Nat) (H : Value) (d : List Fd) (w : World) (hsw : SwapOk H blk n) (hR : Row w blk d) (hn : d.length = n) (hab : a + k ≤ b) (hb : b + k ≤ n) (hnb : n ≤ 21845) :
    Calls Try.prog 55 #[.agg #[.func (.func 35) #[] #[.pointer (some ⟨V, 0, none⟩)], .func (.func 51) #[] #[.slice (some ⟨blk, 0, none⟩) n n, H]], .int .i64 a, .int .i64 b, .int .i64 k] w fun e w' => e = .returned (.tuple #[]) ∧ Fr blk w w' ∧ ∃ d', Row w' blk d' ∧ d'.length = n ∧ ∀ t, d'[t]? = d[srI a b k t]? := by
  have hlt := hR.lt
  obtain ⟨w1, hw1⟩ : ∃ w1, w1 = w.alloc (.cells #[.func (.func 35) #[] #[.pointer (some ⟨V, 0, none⟩)], .func (.func 51) #[] #[.slice (some ⟨blk, 0, none⟩) n n, H]] 87) := ⟨_, rfl⟩
  have c1 : w1.cell? ⟨w.heap.size, 1, none⟩ = some (.func (.func 51) #[] #[.slice (some ⟨blk, 0, none⟩) n n, H]) := by rw [hw1]; simp
  have z1 : w.heap.size < w1.heap.size := by rw [hw1]; simp
  have R1 : Row w1 blk d := by rw [hw1]; exact hR.alloc _
  have F1 : Fr blk w w1 := by rw [hw1]; exact Fr.alloc _ _
  have HW : Hid (w1 = w.alloc (.cells #[.func (.func 35) #[] #[.pointer (some ⟨V, 0, none⟩)], .func (.func 51) #[] #[.slice (some ⟨blk, 0, none⟩) n n, H]] 87)) := hw1
  clear hw1
  go_enter Try.func55, Try.ntmps55
  go_wp2
  rw [← HW.out]
  clear HW
  generalize w.heap.size = B at *
  go_loopw [8] (fun vi wr => ∃ (i : Nat) (dk : List Fd), vi = .int .i64 i ∧ i ≤ k ∧ Row wr blk dk ∧ dk.length = n ∧ Fr blk w1 wr ∧ ∀ t, dk[t]? = d[srI a b i t]?) (fun vi _ => k - (intOf vi).toNat)
  case atStart => exact ⟨0, d, rfl, Nat.zero_le _, R1, hn, Fr.refl _ _, fun t => by rw [srI_zero]⟩
  case round =>
    obtain ⟨i, dk, rfl, hik, Rk, hlk, Fk, hdk⟩ := hrel
    by_cases hi : i < k
    · have ck : wr.cell? ⟨B, 1, none⟩ = some (.func (.func 51) #[] #[.slice (some ⟨blk, 0, none⟩) n n, H]) := (Fk.cell z1 (by omega)).trans c1
      obtain ⟨w2, hrun, R2, F2⟩ := hsw dk wr (a + i) (b + i) Rk hlk (by omega) (by omega)
      rw [show ((a + i : Nat) : Int) = (a : Int) + i by omega, show ((b + i : Nat) : Int) = (b : Int) + i by omega] at hrun
      have HR : Hid (Row w2 blk (swp z0 dk (a + i) (b + i)) ∧ (swp z0 dk (a + i) (b + i)).length = n ∧ Fr blk w1 w2 ∧ ∀ t, (swp z0 dk (a + i) (b + i))[t]? = d[srI a b (i + 1) t]?) :=
        ⟨R2, by rw [swp_length]; exact hlk, Fk.trans F2, fun t => by rw [swp_get z0 dk _ _ (by omega) (by omega), hdk, srI_step a b k i t hab hi]⟩
      clear R2 F2 hdk Rk Fk hR R1 F1 c1 hlk hn hsw
      go_wp2
      go_roundw
      case rel => exact ⟨i + 1, _, by go_num, by omega, HR.out.1, HR.out.2.1, HR.out.2.2.1, HR.out.2.2.2⟩
      case measure => simp [intOf]; omega
    · have e : i = k := by omega
      subst e
      go_wp2
      go_end0
      exact ⟨rfl, F1.trans Fk, dk, Rk, hlk, hdk⟩

theorem swapRange55_at (V blk n a b k : Nat) (H : Value) (d : List Fd) (w : World) (hsw : SwapOk H blk n) (hR : Row w blk d) (hn : d.length = n) (hab : a + k ≤ b) (hb : b + k ≤ n) (hnb : n ≤ 21845) (ia ib ik : Int) (ea : ia = (a : Int)) (eb : ib = (b : Int)) (ek : ik = (k : Int)) :
    Calls Try.prog 55 #[.agg #[.func (.func 35) #[] #[.pointer (some ⟨V, 0, none⟩)], .func (.func 51) #[] #[.slice (some ⟨blk, 0, none⟩) n n, H]], .int .i64 ia, .int .i64 ib, .int .i64 ik] w fun e w' => e = .returned (.tuple #[]) ∧ Fr blk w w' ∧ ∃ d', Row w' blk d' ∧ d'.length = n ∧ ∀ t, d'[t]? = d[srI a b k t]? := by
  subst ea eb ek
  exact swapRange55 V blk n a b k H d w hsw hR hn hab hb hnb
set_option maxHeartbeats 1000000 in
set_option maxRecDepth 100000 in
/-- rotate: the elements from a on and those from m on change places. -/
theorem rotate54 (V blk n a m b : Nat) (H : Value) (d : List Fd) (w : World) (hsw : SwapOk H blk n) (hR : Row w blk d) (hn : d.length = n) (ham : a < m) (hmb : m < b) (hb : b ≤ n) (hnb : n ≤ 21845) :
    Calls Try.prog 54 #[.agg #[.func (.func 35) #[] #[.pointer (some ⟨V, 0, none⟩)], .func (.func 51) #[] #[.slice (some ⟨blk, 0, none⟩) n n, H]], .int .i64 a, .int .i64 m, .int .i64 b] w fun e w' => e = .returned (.tuple #[]) ∧ Fr blk w w' ∧ ∃ d', Row w' blk d' ∧ d'.length = n ∧ ∀ t, d'[t]? = d[rtI a (m - a) (b - m) t]? := by
  have hlt := hR.lt
  obtain ⟨w1, hw1⟩ : ∃ w1, w1 = w.alloc (.cells #[.func (.func 35) #[] #[.pointer (some ⟨V, 0, none⟩)], .func (.func 51) #[] #[.slice (some ⟨blk, 0, none⟩) n n, H]] 87) := ⟨_, rfl⟩
  have c0 : w1.cell? ⟨w.heap.size, 0, none⟩ = some (.func (.func 35) #[] #[.pointer (some ⟨V, 0, none⟩)]) := by rw [hw1]; simp
  have c1 : w1.cell? ⟨w.heap.size, 1, none⟩ = some (.func (.func 51) #[] #[.slice (some ⟨blk, 0, none⟩) n n, H]) := by rw [hw1]; simp
  have z1 : w.heap.size < w1.heap.size := by rw [hw1]; simp
  have R1 : Row w1 blk d := by rw [hw1]; exact hR.alloc _
  have F1 : Fr blk w w1 := by rw [hw1]; exact Fr.alloc _ _
  have HW : Hid (w1 = w.alloc (.cells #[.func (.func 35) #[] #[.pointer (some ⟨V, 0, none⟩)], .func (.func 51) #[] #[.slice (some ⟨blk, 0, none⟩) n n, H]] 87)) := hw1
  have HS : Hid (SwapOk H blk n) := hsw
  clear hw1 hsw hR
  go_enter Try.func54, Try.ntmps54
  go_wp2
  rw [← HW.out]
  clear HW
  generalize w.heap.size = B at *
  go_loopw [8, 9] (fun vi vj wr => ∃ (i j : Nat) (dk : List Fd), vi = .int .i64 i ∧ vj = .int .i64 j ∧ 1 ≤ i ∧ 1 ≤ j ∧ a + i ≤ m ∧ m + j ≤ b ∧ Row wr blk dk ∧ dk.length = n ∧ Fr blk w1 wr ∧ ∀ t, dk[rtI (m - i) i j t]? = d[rtI a (m - a) (b - m) t]?) (fun vi vj _ => (intOf vi).toNat + (intOf vj).toNat)
  case atStart => exact ⟨m - a, b - m, d, by go_num, by go_num, by omega, by omega, by omega, by omega, R1, hn, Fr.refl _ _, fun t => by rw [show m - (m - a) = a by omega]⟩
  case round =>
    obtain ⟨i, j, dk, rfl, rfl, hi1, hj1, hai, hmj, Rk, hlk, Fk, hdk⟩ := hrel
    have k0 : wr.cell? ⟨B, 0, none⟩ = some (.func (.func 35) #[] #[.pointer (some ⟨V, 0, none⟩)]) := (Fk.cell z1 (by omega)).trans c0
    have k1 : wr.cell? ⟨B, 1, none⟩ = some (.func (.func 51) #[] #[.slice (some ⟨blk, 0, none⟩) n n, H]) := (Fk.cell z1 (by omega)).trans c1
    by_cases hij : i = j
    · subst hij
      have hb0 : ((i : Int) != (i : Int)) = false := by simp
      have HD : Hid (∀ t, dk[rtI (m - i) i i t]? = d[rtI a (m - a) (b - m) t]?) := hdk
      clear hdk c0 c1 R1
      go_wp2_with (go_at_call 55; refine (swapRange55_at V blk n (m - i) m i H dk wr HS.out Rk hlk (by omega) (by omega) hnb _ _ _ (by omega) (by omega) (by omega)).mono ?_; rintro e w2 ⟨rfl, F2, d2, R2, l2, g2⟩)
      go_end0
      exact ⟨rfl, (F1.trans Fk).trans F2, d2, R2, l2, fun t => by rw [g2, rt_last m i t (by omega)]; exact HD.out t⟩
    · have hb0 : ((i : Int) != (j : Int)) = true := by rw [bne_iff_ne]; omega
      by_cases hgt : j < i
      · have hc := swapRange55 V blk n (m - i) m j H dk wr HS.out Rk hlk (by omega) (by omega) hnb
        rw [show ((m - i : Nat) : Int) = (m : Int) - i by omega] at hc
        have HC : Hid _ := hc
        have HD : Hid (∀ t, dk[rtI (m - i) i j t]? = d[rtI a (m - a) (b - m) t]?) := hdk
        clear hdk c0 c1 R1
        go_wp2_with (go_at_call 55; refine (swapRange55_at V blk n (m - i) m j H dk wr HS.out Rk hlk (by omega) (by omega) hnb _ _ _ (by omega) (by omega) (by omega)).mono ?_; rintro e w2 ⟨rfl, F2, d2, R2, l2, g2⟩)
        go_roundw
        case rel => exact ⟨i - j, j, d2, by go_num, rfl, by omega, by omega, by omega, by omega, R2, l2, Fk.trans F2, fun t => by rw [g2, rt_more m i j t (by omega) hgt]; exact HD.out t⟩
        case measure => simp [intOf]; omega
      · have hle : ¬ (j : Int) < (i : Int) := by omega
        have HD : Hid (∀ t, dk[rtI (m - i) i j t]? = d[rtI a (m - a) (b - m) t]?) := hdk
        clear hdk c0 c1 R1
        go_wp2_with (go_at_call 55; refine (swapRange55_at V blk n (m - i) (m + j - i) i H dk wr HS.out Rk hlk (by omega) (by omega) hnb _ _ _ (by omega) (by omega) (by omega)).mono ?_; rintro e w2 ⟨rfl, F2, d2, R2, l2, g2⟩)
        go_roundw
        case rel => exact ⟨i, j - i, d2, rfl, by go_num, by omega, by omega, by omega, by omega, R2, l2, Fk.trans F2, fun t => by rw [g2, rt_less m i j t (by omega) (by omega)]; exact HD.out t⟩
        case measure => simp [intOf]; omega
end Go.Proofs.Qxb6615667a.Srt
