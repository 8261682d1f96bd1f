import Derived.Test.Qxb6615667aSortPlain
namespace Go.Proofs.Qxb6615667a.Plain
variable {α : Type} (p : α → Bool)

/-- 'less(i, j)'. -/
def ls (z : α) (d : List α) (i j : Nat) : Bool := mu p z d i && !mu p z d j

/-! ### THE END: moved, and parted: the stable order -/
theorem filter_all {l : List α} (h : ∀ x ∈ l, p x = true) : l.filter p = l ∧ l.filter (fun x => !p x) = [] :=
  ⟨List.filter_eq_self.2 h, List.filter_eq_nil_iff.2 fun x hx => by simp [h x hx]⟩
theorem filter_none {l : List α} (h : ∀ x ∈ l, p x = false) : l.filter p = [] ∧ l.filter (fun x => !p x) = l :=
  ⟨List.filter_eq_nil_iff.2 fun x hx => by simp [h x hx], List.filter_eq_self.2 fun x hx => by simp [h x hx]⟩
theorem stable_of {z : α} {d d' : List α} {k : Nat} (hm : Moved p 0 d.length d d') (hp : Parted p z d' 0 d.length k) : d' = d.filter p ++ d.filter (fun x => !p x) := by
  obtain ⟨P, S, S', Q, h1, h2, h3, h4, h5⟩ := hm
  have hP : P = [] := List.length_eq_zero_iff.1 h3
  subst hP
  have hQ : Q = [] := by
    have := congrArg List.length h1
    simp at this h4
    exact List.length_eq_zero_iff.1 (by omega)
  subst hQ
  simp only [List.nil_append, List.append_nil] at h1 h2
  subst h1 h2
  have hl := h5.length
  obtain ⟨_, hk, hp1, hp2⟩ := hp
  have a1 : ∀ x ∈ d'.take k, p x = true := by
    refine (mem_sec p (z := z) (P := []) (Q := d'.drop k)).1 fun t _ t2 => ?_
    simp only [List.nil_append, List.take_append_drop]
    exact hp1 t (Nat.zero_le _) (by simp at t2; omega)
  have a2 : ∀ x ∈ d'.drop k, p x = false := by
    refine (mem_sec p (z := z) (P := d'.take k) (Q := [])).1 fun t t1 t2 => ?_
    simp only [List.append_nil, List.take_append_drop]
    simp at t1 t2
    exact hp2 t (by omega) (by omega)
  rw [h5.1, h5.2]
  conv => rhs; rw [← List.take_append_drop k d']
  rw [List.filter_append, List.filter_append, (filter_all p a1).1, (filter_all p a1).2, (filter_none p a2).1, (filter_none p a2).2]
  simp

/-! ### THE SINGLE ELEMENT ON THE LEFT -/
theorem left_K {z : α} {d : List α} {a b k2 : Nat} (hR : Parted p z d (a + 1) b k2) :
    ∃ K, a + 1 ≤ K ∧ K ≤ b ∧ (∀ h, a + 1 ≤ h → h < b → (ls p z d h a = true ↔ h < K)) ∧ (mu p z d a = true ∧ K = a + 1 ∨ mu p z d a = false ∧ K = k2) := by
  obtain ⟨r1, r2, r3, r4⟩ := hR
  cases hx : mu p z d a with
  | true => exact ⟨a + 1, Nat.le_refl _, by omega, fun h h1 h2 => by simp [ls, hx]; omega, Or.inl ⟨rfl, rfl⟩⟩
  | false =>
    refine ⟨k2, r1, r2, fun h h1 h2 => ?_, Or.inr ⟨rfl, rfl⟩⟩
    by_cases hk : h < k2
    · simp [ls, hx, r3 h h1 hk, hk]
    · simp [ls, r4 h (by omega) h2, hk]

/-- What holds at step k of the walk of the left element to its place K - 1. -/
def Inv1 (z : α) (d : List α) (a b K : Nat) (dk : List α) (k : Nat) : Prop :=
  Moved p a b d dk ∧ a ≤ k ∧ k < K ∧ K ≤ b ∧ (k + 1 < K → mu p z dk k = false ∧ (∀ t, a ≤ t → t < k → mu p z dk t = true) ∧ (∀ t, k < t → t < K → mu p z dk t = true) ∧ ∀ t, K ≤ t → t < b → mu p z dk t = false) ∧
    (k + 1 = K → ∃ kk, Parted p z dk a b kk)

theorem inv1_start {z : α} {d : List α} {a b k2 K : Nat} (hl : b ≤ d.length) (hR : Parted p z d (a + 1) b k2) (h1 : a + 1 ≤ K) (hb : K ≤ b) (hc : mu p z d a = true ∧ K = a + 1 ∨ mu p z d a = false ∧ K = k2) : Inv1 p z d a b K d a := by
  obtain ⟨r1, r2, r3, r4⟩ := hR
  refine ⟨Moved.refl p d (by omega) hl, Nat.le_refl _, by omega, hb, fun hk => ?_, fun hk => ?_⟩
  · rcases hc with ⟨hx, rfl⟩ | ⟨hx, rfl⟩
    · omega
    · exact ⟨hx, fun t t1 t2 => by omega, fun t t1 t2 => r3 t (by omega) t2, fun t t1 t2 => r4 t t1 t2⟩
  · rcases hc with ⟨hx, _⟩ | ⟨hx, rfl⟩
    · refine ⟨k2, by omega, r2, fun t t1 t2 => ?_, r4⟩
      by_cases e : t = a
      · subst e; exact hx
      · exact r3 t (by omega) t2
    · refine ⟨a, Nat.le_refl _, by omega, fun t t1 t2 => by omega, fun t t1 t2 => ?_⟩
      by_cases e : t = a
      · subst e; exact hx
      · exact r4 t (by omega) t2

theorem inv1_step {z : α} {d dk : List α} {a b K k : Nat} (h : Inv1 p z d a b K dk k) (hk : k + 1 < K) : Inv1 p z d a b K (swp z dk k (k + 1)) (k + 1) := by
  obtain ⟨m, h1, h2, h3, h4, _⟩ := h
  obtain ⟨x0, x1, x2, x3⟩ := h4 hk
  have hl : dk.length = d.length := m.length
  have hle := m.le
  have hm : Moved p k (k + 2) dk (swp z dk k (k + 1)) := Moved.swap p (by omega) x0 (x2 (k + 1) (by omega) hk)
  have g := swp_get z dk k (k + 1) (by omega) (by omega)
  have gk : mu p z (swp z dk k (k + 1)) k = true := by rw [mu_eq p (g k)]; simp [sw]; exact x2 (k + 1) (by omega) hk
  have gk1 : mu p z (swp z dk k (k + 1)) (k + 1) = false := by rw [mu_eq p (g (k + 1))]; simp [sw]; exact x0
  refine ⟨m.trans p (hm.mono p h1 (by omega) (by omega)), by omega, hk, h3, fun hk' => ⟨gk1, fun t t1 t2 => ?_, fun t t1 t2 => ?_, fun t t1 t2 => ?_⟩, fun hk' => ⟨k + 1, by omega, by omega, fun t t1 t2 => ?_, fun t t1 t2 => ?_⟩⟩
  · by_cases e : t = k
    · subst e; exact gk
    · rw [hm.mu_out p t (by omega)]; exact x1 t t1 (by omega)
  · rw [hm.mu_out p t (by omega)]; exact x2 t (by omega) t2
  · rw [hm.mu_out p t (by omega)]; exact x3 t t1 t2
  · by_cases e : t = k
    · subst e; exact gk
    · rw [hm.mu_out p t (by omega)]; exact x1 t t1 (by omega)
  · by_cases e : t = k + 1
    · subst e; exact gk1
    · rw [hm.mu_out p t (by omega)]; exact x3 t (by omega) t2

/-! ### THE SINGLE ELEMENT ON THE RIGHT (symMerge's second case; the insertion sort's round) -/
theorem right_K {z : α} {d : List α} {a m k1 : Nat} (hL : Parted p z d a m k1) :
    ∃ K, a ≤ K ∧ K ≤ m ∧ (∀ h, a ≤ h → h < m → (ls p z d m h = false ↔ h < K)) ∧ (mu p z d m = true ∧ K = k1 ∨ mu p z d m = false ∧ K = m) := by
  obtain ⟨r1, r2, r3, r4⟩ := hL
  cases hx : mu p z d m with
  | false => exact ⟨m, by omega, Nat.le_refl _, fun h h1 h2 => by simp [ls, hx, h2], Or.inr ⟨rfl, rfl⟩⟩
  | true =>
    refine ⟨k1, r1, r2, fun h h1 h2 => ?_, Or.inl ⟨rfl, rfl⟩⟩
    by_cases hk : h < k1
    · simp [ls, hx, r3 h h1 hk, hk]
    · simp [ls, hx, r4 h (by omega) h2, hk]

/-- What holds at step k of the walk of the right element down to its place K. -/
def Inv2 (z : α) (d : List α) (a m K : Nat) (dk : List α) (k : Nat) : Prop :=
  Moved p a (m + 1) d dk ∧ a ≤ K ∧ K ≤ k ∧ k ≤ m ∧ (K < k → mu p z dk k = true ∧ (∀ t, a ≤ t → t < K → mu p z dk t = true) ∧ (∀ t, K ≤ t → t < k → mu p z dk t = false) ∧ ∀ t, k < t → t ≤ m → mu p z dk t = false) ∧
    (k = K → ∃ kk, Parted p z dk a (m + 1) kk)

theorem inv2_start {z : α} {d : List α} {a m k1 K : Nat} (hl : m < d.length) (hL : Parted p z d a m k1) (h1 : a ≤ K) (hb : K ≤ m) (hc : mu p z d m = true ∧ K = k1 ∨ mu p z d m = false ∧ K = m) : Inv2 p z d a m K d m := by
  obtain ⟨r1, r2, r3, r4⟩ := hL
  refine ⟨Moved.refl p d (by omega) (by omega), h1, hb, Nat.le_refl _, fun hk => ?_, fun hk => ?_⟩
  · rcases hc with ⟨hx, rfl⟩ | ⟨hx, rfl⟩
    · exact ⟨hx, r3, r4, fun t t1 t2 => by omega⟩
    · omega
  · rcases hc with ⟨hx, rfl⟩ | ⟨hx, _⟩
    · refine ⟨m + 1, by omega, Nat.le_refl _, fun t t1 t2 => ?_, fun t t1 t2 => by omega⟩
      by_cases e : t = m
      · subst e; exact hx
      · exact r3 t t1 (by omega)
    · refine ⟨k1, r1, by omega, r3, fun t t1 t2 => ?_⟩
      by_cases e : t = m
      · subst e; exact hx
      · exact r4 t t1 (by omega)

theorem inv2_step {z : α} {d dk : List α} {a m K k : Nat} (h : Inv2 p z d a m K dk k) (hk : K < k) : Inv2 p z d a m K (swp z dk k (k - 1)) (k - 1) := by
  obtain ⟨mv, h1, h2, h3, h4, _⟩ := h
  obtain ⟨x0, x1, x2, x3⟩ := h4 hk
  obtain ⟨j, rfl⟩ : ∃ j, k = j + 1 := ⟨k - 1, by omega⟩
  rw [show j + 1 - 1 = j from rfl]
  have hl : dk.length = d.length := mv.length
  have hle := mv.le
  rw [swp_comm z dk (j + 1) j (by omega) (by omega)]
  have hm : Moved p j (j + 2) dk (swp z dk j (j + 1)) := Moved.swap p (by omega) (x2 j (by omega) (by omega)) x0
  have g := swp_get z dk j (j + 1) (by omega) (by omega)
  have gk : mu p z (swp z dk j (j + 1)) j = true := by rw [mu_eq p (g j)]; simp [sw]; exact x0
  have gk1 : mu p z (swp z dk j (j + 1)) (j + 1) = false := by rw [mu_eq p (g (j + 1))]; simp [sw]; exact x2 j (by omega) (by omega)
  refine ⟨mv.trans p (hm.mono p (by omega) (by omega) (by omega)), h1, by omega, by omega, fun hk' => ⟨gk, fun t t1 t2 => ?_, fun t t1 t2 => ?_, fun t t1 t2 => ?_⟩, fun hk' => ⟨j + 1, by omega, by omega, fun t t1 t2 => ?_, fun t t1 t2 => ?_⟩⟩
  · rw [hm.mu_out p t (by omega)]; exact x1 t t1 t2
  · rw [hm.mu_out p t (by omega)]; exact x2 t t1 (by omega)
  · by_cases e : t = j + 1
    · subst e; exact gk1
    · rw [hm.mu_out p t (by omega)]; exact x3 t (by omega) t2
  · by_cases e : t = j
    · subst e; exact gk
    · rw [hm.mu_out p t (by omega)]; exact x1 t t1 (by omega)
  · by_cases e : t = j + 1
    · subst e; exact gk1
    · rw [hm.mu_out p t (by omega)]; exact x3 t (by omega) (by omega)

/-- The insertion sort's test: yes above K, no at K. -/
theorem inv2_yes {z : α} {d dk : List α} {a m K k : Nat} (h : Inv2 p z d a m K dk k) (hk : K < k) : ls p z dk k (k - 1) = true := by
  obtain ⟨mv, h1, h2, h3, h4, _⟩ := h
  obtain ⟨x0, x1, x2, x3⟩ := h4 hk
  simp [ls, x0, x2 (k - 1) (by omega) (by omega)]
theorem inv2_no {z : α} {d dk : List α} {a m K k : Nat} (h : Inv2 p z d a m K dk k) (hk : k = K) (hak : a < k) : ls p z dk k (k - 1) = false := by
  obtain ⟨mv, h1, h2, h3, _, h5⟩ := h
  obtain ⟨kk, y1, y2, y3, y4⟩ := h5 hk
  unfold ls
  by_cases c : k < kk
  · simp [y3 (k - 1) (by omega) (by omega)]
  · simp [y4 k (by omega) (by omega)]
theorem inv2_end {z : α} {d dk : List α} {a m K k : Nat} (h : Inv2 p z d a m K dk k) (hk : k = K) : Moved p a (m + 1) d dk ∧ ∃ kk, Parted p z dk a (m + 1) kk := ⟨h.1, h.2.2.2.2.2 hk⟩
theorem inv1_end {z : α} {d dk : List α} {a b K k : Nat} (h : Inv1 p z d a b K dk k) (hk : ¬ k + 1 < K) : Moved p a b d dk ∧ ∃ kk, Parted p z dk a b kk := ⟨h.1, h.2.2.2.2.2 (by have := h.2.2.1; omega)⟩
end Go.Proofs.Qxb6615667a.Plain
