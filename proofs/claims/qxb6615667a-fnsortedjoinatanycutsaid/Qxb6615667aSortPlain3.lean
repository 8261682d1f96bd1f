import Derived.Test.Qxb6615667aSortPlain2
namespace Go.Proofs.Qxb6615667a.Plain
variable {α : Type} (p : α → Bool)

/-! ### swapRange, rotate: by the elements' numbers -/
def srI (a b i t : Nat) : Nat := if a ≤ t ∧ t < a + i then t - a + b else if b ≤ t ∧ t < b + i then t - b + a else t
theorem srI_zero (a b t : Nat) : srI a b 0 t = t := by unfold srI; rw [if_neg (by omega), if_neg (by omega)]
theorem srI_step (a b n i t : Nat) (h : a + n ≤ b) (hi : i < n) : srI a b i (sw (a + i) (b + i) t) = srI a b (i + 1) t := by
  by_cases h1 : t = a + i
  · have e : sw (a + i) (b + i) t = b + i := by unfold sw; rw [if_pos h1]
    rw [e]; unfold srI; (repeat' split) <;> omega
  · by_cases h2 : t = b + i
    · have e : sw (a + i) (b + i) t = a + i := by unfold sw; rw [if_neg h1, if_pos h2]
      rw [e]; unfold srI; (repeat' split) <;> omega
    · have e : sw (a + i) (b + i) t = t := by unfold sw; rw [if_neg h1, if_neg h2]
      rw [e]; unfold srI; (repeat' split) <;> omega

/-- Where element t of the rotated list came from: 'x' elements from a on, then 'y'. -/
def rtI (a x y t : Nat) : Nat := if a ≤ t ∧ t < a + y then t + x else if a + y ≤ t ∧ t < a + y + x then t - y else t
theorem rt_last (m i t : Nat) (h : i ≤ m) : srI (m - i) m i t = rtI (m - i) i i t := by
  unfold srI rtI
  by_cases c : m - i ≤ t ∧ t < m - i + i
  · rw [if_pos c, if_pos c]; omega
  · rw [if_neg c, if_neg c]
    by_cases c2 : m ≤ t ∧ t < m + i
    · rw [if_pos c2, if_pos (by omega)]; omega
    · rw [if_neg c2, if_neg (by omega)]
theorem rt_more (m i j t : Nat) (h : i ≤ m) (hj : j < i) : srI (m - i) m j (rtI (m - (i - j)) (i - j) j t) = rtI (m - i) i j t := by
  unfold rtI
  by_cases c : m - (i - j) ≤ t ∧ t < m - (i - j) + j
  · rw [if_pos c]
    unfold srI
    rw [if_neg (by omega), if_pos (by omega)]
    by_cases c2 : m - i ≤ t ∧ t < m - i + j
    · rw [if_pos c2]; omega
    · rw [if_neg c2, if_pos (by omega)]; omega
  · rw [if_neg c]
    by_cases c3 : m - (i - j) + j ≤ t ∧ t < m - (i - j) + j + (i - j)
    · rw [if_pos c3]
      unfold srI
      rw [if_neg (by omega), if_neg (by omega), if_neg (by omega), if_pos (by omega)]
    · rw [if_neg c3]
      unfold srI
      by_cases c4 : m - i ≤ t ∧ t < m - i + j
      · rw [if_pos c4, if_pos c4]; omega
      · rw [if_neg c4, if_neg (by omega), if_neg c4, if_neg (by omega)]
theorem rt_less (m i j t : Nat) (h : i ≤ m) (hj : i < j) : srI (m - i) (m + j - i) i (rtI (m - i) i (j - i) t) = rtI (m - i) i j t := by
  unfold rtI
  by_cases c : m - i ≤ t ∧ t < m - i + (j - i)
  · rw [if_pos c, if_pos (by omega)]
    unfold srI
    rw [if_neg (by omega), if_neg (by omega)]
  · rw [if_neg c]
    by_cases c3 : m - i + (j - i) ≤ t ∧ t < m - i + (j - i) + i
    · rw [if_pos c3]
      unfold srI
      rw [if_pos (by omega), if_pos (by omega)]; omega
    · rw [if_neg c3]
      unfold srI
      by_cases c4 : m + j - i ≤ t ∧ t < m + j - i + i
      · rw [if_neg (by omega), if_pos c4, if_neg (by omega), if_pos (by omega)]; omega
      · rw [if_neg (by omega), if_neg c4, if_neg (by omega), if_neg (by omega)]

/-! ### THE GENERAL MERGE -/
/-- Where the search begins and ends. -/
def start0 (m b mid : Nat) (a : Nat) : Nat := if mid < m then mid + m - b else a
def stop0 (m mid : Nat) : Nat := if mid < m then mid else m

set_option maxHeartbeats 1000000 in
theorem sym_K {z : α} {d : List α} {a m b mid k1 k2 : Nat} (hl : b ≤ d.length) (hL : Parted p z d a m k1) (hR : Parted p z d m b k2) (h1 : a < m) (h2 : m < b) (hmid : mid = (a + b) / 2) :
    ∃ K, start0 m b mid a ≤ K ∧ K ≤ stop0 m mid ∧ (∀ c, start0 m b mid a ≤ c → c < stop0 m mid → (ls p z d (mid + m - 1 - c) c = false ↔ c < K)) ∧ a ≤ K ∧ K ≤ mid ∧ K ≤ m ∧
      ∀ d1 : List α, (∀ t, d1[t]? = d[rtI K (m - K) (mid - K) t]?) →
        Moved p a b d d1 ∧ (∃ k, Parted p z d1 a K k) ∧ (∃ k, Parted p z d1 K mid k) ∧ (∃ k, Parted p z d1 mid (mid + m - K) k) ∧ (∃ k, Parted p z d1 (mid + m - K) b k) ∧
        ((∀ t, a ≤ t → t < mid → mu p z d1 t = true) ∨ (∀ t, mid ≤ t → t < b → mu p z d1 t = false)) := by
  obtain ⟨l1, l2, l3, l4⟩ := hL
  obtain ⟨r1, r2, r3, r4⟩ := hR
  have hs0 : a ≤ start0 m b mid a ∧ start0 m b mid a ≤ stop0 m mid ∧ stop0 m mid ≤ m ∧ stop0 m mid ≤ mid ∧ (stop0 m mid = mid ∨ stop0 m mid = m) ∧ start0 m b mid a ≤ max k1 (mid + m - k2) ∧ mid + m ≤ b + start0 m b mid a := by
    unfold start0 stop0; split <;> omega
  generalize start0 m b mid a = s0 at *
  generalize stop0 m mid = r0 at *
  obtain ⟨e1, e2, e3, e4, e5, e6, e7⟩ := hs0
  have hmb : mid < b ∧ a ≤ mid := by omega
  -- K = min r0 (max k1 (mid + m - k2))
  obtain ⟨K, hK⟩ : ∃ K, K = min r0 (max k1 (mid + m - k2)) := ⟨_, rfl⟩
  refine ⟨K, by omega, by omega, fun c c1 c2 => ?_, by omega, by omega, by omega, fun d1 hd => ?_⟩
  · by_cases q1 : c < k1
    · simp only [ls, l3 c (by omega) q1, Bool.not_true, Bool.and_false, true_iff]; omega
    · by_cases q2 : mid + m - 1 - c < k2
      · simp only [ls, l4 c (by omega) (by omega), r3 (mid + m - 1 - c) (by omega) q2, Bool.not_false, Bool.and_true, Bool.true_eq_false, false_iff]; omega
      · simp only [ls, r4 (mid + m - 1 - c) (by omega) (by omega), Bool.false_and, true_iff]; omega
  · have gm : ∀ t, mu p z d1 t = mu p z d (rtI K (m - K) (mid - K) t) := fun t => mu_eq p (hd t)
    have g1 : ∀ t, t < K → mu p z d1 t = mu p z d t := fun t ht => by rw [gm]; unfold rtI; rw [if_neg (by omega), if_neg (by omega)]
    have g2 : ∀ t, K ≤ t → t < mid → mu p z d1 t = mu p z d (t + (m - K)) := fun t t1 t2 => by rw [gm]; unfold rtI; rw [if_pos (by omega)]
    have g3 : ∀ t, mid ≤ t → t < mid + m - K → mu p z d1 t = mu p z d (t - (mid - K)) := fun t t1 t2 => by rw [gm]; unfold rtI; rw [if_neg (by omega), if_pos (by omega)]
    have g4 : ∀ t, mid + m - K ≤ t → mu p z d1 t = mu p z d t := fun t t1 => by rw [gm]; unfold rtI; rw [if_neg (by omega), if_neg (by omega)]
    refine ⟨?_, ⟨min k1 K, by omega, by omega, fun t t1 t2 => ?_, fun t t1 t2 => ?_⟩, ⟨min (k2 - (m - K)) mid, by omega, by omega, fun t t1 t2 => ?_, fun t t1 t2 => ?_⟩,
      ⟨max mid (k1 + (mid - K)), by omega, by omega, fun t t1 t2 => ?_, fun t t1 t2 => ?_⟩, ⟨max (mid + m - K) k2, by omega, by omega, fun t t1 t2 => ?_, fun t t1 t2 => ?_⟩, ?_⟩
    · by_cases hx : m - K = 0
      · have : d1 = d := List.ext_getElem? fun t => by
          rw [hd]; congr 1; unfold rtI; rw [hx]; split
          · rfl
          · rw [if_neg (by omega)]
        rw [this]; exact Moved.refl p d (by omega) hl
      · by_cases hy : mid - K = 0
        · have : d1 = d := List.ext_getElem? fun t => by
            rw [hd]; congr 1; unfold rtI; rw [hy]; rw [if_neg (by omega)]; split
            · rfl
            · rfl
          rw [this]; exact Moved.refl p d (by omega) hl
        · have hmv : Moved p K (K + (m - K) + (mid - K)) d d1 := Moved.turn p (z := z) (n := m - K) (m := mid - K) (fun t => by rw [hd]; rfl) (by omega)
            (fun t t1 t2 => l4 t (by omega) (by omega)) (fun t t1 t2 => r3 t (by omega) (by omega))
          exact hmv.mono p (by omega) (by omega) hl
    · rw [g1 t (by omega)]; exact l3 t t1 (by omega)
    · rw [g1 t t2]; exact l4 t (by omega) (by omega)
    · rw [g2 t t1 (by omega)]; exact r3 _ (by omega) (by omega)
    · rw [g2 t (by omega) t2]; exact r4 _ (by omega) (by omega)
    · rw [g3 t t1 (by omega)]; exact l3 _ (by omega) (by omega)
    · rw [g3 t (by omega) t2]; exact l4 _ (by omega) (by omega)
    · rw [g4 t t1]; exact r3 _ (by omega) (by omega)
    · rw [g4 t (by omega)]; exact r4 _ (by omega) (by omega)
    · by_cases hc : mid + m - k2 ≤ k1
      · left
        intro t t1 t2
        by_cases ht : t < K
        · rw [g1 t ht]; exact l3 t t1 (by omega)
        · rw [g2 t (by omega) t2]; exact r3 _ (by omega) (by omega)
      · right
        intro t t1 t2
        by_cases ht : t < mid + m - K
        · rw [g3 t t1 ht]; exact l4 _ (by omega) (by omega)
        · rw [g4 t (by omega)]; exact r4 _ (by omega) (by omega)

/-- Two parted halves, the one of one class alone: the whole. -/
theorem sym_end {z : α} {d1 d2 d3 : List α} {a mid b : Nat} (h2 : Moved p a mid d1 d2) (h3 : Moved p mid b d2 d3) (q2 : ∃ k, Parted p z d2 a mid k) (q3 : ∃ k, Parted p z d3 mid b k)
    (hc : (∀ t, a ≤ t → t < mid → mu p z d1 t = true) ∨ (∀ t, mid ≤ t → t < b → mu p z d1 t = false)) : Moved p a b d1 d3 ∧ ∃ k, Parted p z d3 a b k := by
  obtain ⟨k2, a1, a2, a3, a4⟩ := q2
  obtain ⟨k3, b1, b2, b3, b4⟩ := q3
  have e2 := h2.le
  have e3 := h3.le
  have l2 := h2.length
  refine ⟨(h2.mono p (Nat.le_refl _) e3.1 (by omega)).trans p (h3.mono p e2.1 (Nat.le_refl _) (by omega)), ?_⟩
  rcases hc with hc | hc
  · have hall := h2.all p true hc
    refine ⟨k3, by omega, b2, fun t t1 t2 => ?_, b4⟩
    by_cases c : t < mid
    · rw [h3.mu_out p t (by omega)]; exact hall t t1 c
    · exact b3 t (by omega) t2
  · have hno : ∀ t, mid ≤ t → t < b → mu p z d2 t = false := fun t t1 t2 => by rw [h2.mu_out p t (by omega)]; exact hc t t1 t2
    have hall := h3.all p false hno
    refine ⟨k2, a1, by omega, fun t t1 t2 => ?_, fun t t1 t2 => ?_⟩
    · rw [h3.mu_out p t (by omega)]; exact a3 t t1 t2
    · by_cases c : t < mid
      · rw [h3.mu_out p t (by omega)]; exact a4 t t1 c
      · exact hall t (by omega) t2

/-- A stretch cut at one of its ends. -/
theorem parted_join {z : α} {d : List α} {a K mid : Nat} (h1 : ∃ k, Parted p z d a K k) (h2 : ∃ k, Parted p z d K mid k) (h : ¬ (a < K ∧ K < mid)) : ∃ k, Parted p z d a mid k := by
  obtain ⟨k1, a1, a2, a3, a4⟩ := h1
  obtain ⟨k2, b1, b2, b3, b4⟩ := h2
  by_cases c : a = K
  · subst c; exact ⟨k2, b1, b2, b3, b4⟩
  · have : K = mid := by omega
    subst this; exact ⟨k1, a1, a2, a3, a4⟩

/-! ### THE BLOCKS -/
/-- From a on: blocks of bs, each parted; the last may be short. -/
def Bl (z : α) (d : List α) (bs a n : Nat) : Prop := ∀ q, a + q * bs < n → ∃ k, Parted p z d (a + q * bs) (min (a + q * bs + bs) n) k
theorem Bl.tail {z : α} {d : List α} {bs a n : Nat} (h : Bl p z d bs a n) : Bl p z d bs (a + bs) n := fun q hq => by
  have e : (q + 1) * bs = q * bs + bs := Nat.succ_mul q bs
  have := h (q + 1) (by omega)
  rw [show a + bs + q * bs = a + (q + 1) * bs by omega]; exact this
theorem Bl.head {z : α} {d : List α} {bs a n : Nat} (h : Bl p z d bs a n) (ha : a < n) : ∃ k, Parted p z d a (min (a + bs) n) k := by
  have := h 0 (by omega)
  simpa using this
theorem Bl.out {z : α} {d d' : List α} {bs a n a' b' : Nat} (h : Bl p z d bs a n) (hm : Moved p a' b' d d') (hb : b' ≤ a) : Bl p z d' bs a n := fun q hq => by
  obtain ⟨k, hk⟩ := h q hq
  exact ⟨k, hk.out p hm (Or.inr (by omega))⟩
/-- The blocks done so far: c of them, of size bs, whole. -/
def Dn (z : α) (d : List α) (bs c : Nat) : Prop := ∀ q, q < c → ∃ k, Parted p z d (q * bs) (q * bs + bs) k
theorem Dn.out {z : α} {d d' : List α} {bs c a' b' : Nat} (h : Dn p z d bs c) (hm : Moved p a' b' d d') (hb : c * bs ≤ a') : Dn p z d' bs c := fun q hq => by
  obtain ⟨k, hk⟩ := h q hq
  have e : (q + 1) * bs = q * bs + bs := Nat.succ_mul q bs
  have := Nat.mul_le_mul_right bs (show q + 1 ≤ c by omega)
  exact ⟨k, hk.out p hm (Or.inl (by omega))⟩
theorem Dn.more {z : α} {d : List α} {bs c : Nat} (h : Dn p z d bs c) (k : Nat) (hk : Parted p z d (c * bs) (c * bs + bs) k) : Dn p z d bs (c + 1) := fun q hq => by
  by_cases e : q = c
  · subst e; exact ⟨k, hk⟩
  · exact h q (by omega)
/-- All whole blocks and the short one behind them. -/
theorem Dn.all {z : α} {d : List α} {bs c n : Nat} (h : Dn p z d bs c) (hb : n < c * bs + bs) (hl : c * bs < n → ∃ k, Parted p z d (c * bs) n k) : Bl p z d bs 0 n := fun q hq => by
  rw [Nat.zero_add] at hq ⊢
  by_cases e : q < c
  · obtain ⟨k, hk⟩ := h q e
    have e1 : (q + 1) * bs = q * bs + bs := Nat.succ_mul q bs
    have := Nat.mul_le_mul_right bs (show q + 1 ≤ c by omega)
    by_cases e2 : q * bs + bs ≤ n
    · rw [Nat.min_eq_left e2]; exact ⟨k, hk⟩
    · rw [Nat.min_eq_right (by omega)]
      obtain ⟨k1, k2, k3, k4⟩ := hk
      exact ⟨min k n, by omega, by omega, fun t t1 t2 => k3 t t1 (by omega), fun t t1 t2 => k4 t (by omega) (by omega)⟩
  · by_cases e3 : q = c
    · subst e3; rw [Nat.min_eq_right (by omega)]; exact hl hq
    · have e1 : (c + 1) * bs = c * bs + bs := Nat.succ_mul c bs
      have := Nat.mul_le_mul_right bs (show c + 1 ≤ q by omega)
      omega
end Go.Proofs.Qxb6615667a.Plain
