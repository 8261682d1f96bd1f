/-
  THE PLAIN LAWS OF A STABLE SORT BY A KEY OF TWO CLASSES: no Go in sight. 'p x': x is of the class that comes first.
-/
namespace Go.Proofs.Qxb6615667a.Plain
variable {α : Type} (p : α → Bool)

/-- The same elements of each class in the same order. -/
def SE (l l' : List α) : Prop := l.filter p = l'.filter p ∧ l.filter (fun x => !p x) = l'.filter (fun x => !p x)
theorem SE.refl (l : List α) : SE p l l := ⟨rfl, rfl⟩
theorem SE.trans {l l' l'' : List α} (h : SE p l l') (k : SE p l' l'') : SE p l l'' := ⟨h.1.trans k.1, h.2.trans k.2⟩
theorem SE.app {a a' b b' : List α} (h : SE p a a') (k : SE p b b') : SE p (a ++ b) (a' ++ b') := by
  unfold SE at *
  simp only [List.filter_append]
  exact ⟨by rw [h.1, k.1], by rw [h.2, k.2]⟩
theorem length_two (l : List α) : (l.filter p).length + (l.filter (fun x => !p x)).length = l.length := by
  induction l with
  | nil => rfl
  | cons x r ih =>
    by_cases h : p x
    · simp [h]; omega
    · simp [h]; omega
theorem SE.length {l l' : List α} (h : SE p l l') : l.length = l'.length := by
  rw [← length_two p l, ← length_two p l', h.1, h.2]

/-- All of X are of the second class, all of Y of the first: the two may change places. -/
theorem SE.exch {X Y : List α} (hX : ∀ x ∈ X, p x = false) (hY : ∀ y ∈ Y, p y = true) : SE p (X ++ Y) (Y ++ X) := by
  have a : X.filter p = [] := List.filter_eq_nil_iff.2 fun x hx => by simp [hX x hx]
  have b : Y.filter (fun x => !p x) = [] := List.filter_eq_nil_iff.2 fun y hy => by simp [hY y hy]
  unfold SE
  simp [a, b]

/-- d' is d but for the places from a on and before b, where the elements of each class keep their order. -/
def Moved (a b : Nat) (d d' : List α) : Prop := ∃ P S S' Q, d = P ++ (S ++ Q) ∧ d' = P ++ (S' ++ Q) ∧ P.length = a ∧ a + S.length = b ∧ SE p S S'

theorem Moved.refl {a b : Nat} (d : List α) (hab : a ≤ b) (hb : b ≤ d.length) : Moved p a b d d :=
  ⟨d.take a, (d.drop a).take (b - a), (d.drop a).take (b - a), d.drop b, by
    rw [show d.drop b = (d.drop a).drop (b - a) by rw [List.drop_drop]; congr 1; omega, List.take_append_drop, List.take_append_drop], by
    rw [show d.drop b = (d.drop a).drop (b - a) by rw [List.drop_drop]; congr 1; omega, List.take_append_drop, List.take_append_drop],
    by simp; omega, by simp; omega, SE.refl p _⟩

theorem Moved.length {a b : Nat} {d d' : List α} (h : Moved p a b d d') : d'.length = d.length := by
  obtain ⟨P, S, S', Q, rfl, rfl, _, _, h5⟩ := h
  have := h5.length
  simp [this]
theorem Moved.le {a b : Nat} {d d' : List α} (h : Moved p a b d d') : a ≤ b ∧ b ≤ d.length := by
  obtain ⟨P, S, S', Q, rfl, rfl, h3, h4, _⟩ := h
  simp; omega

theorem Moved.trans {a b : Nat} {d d' d'' : List α} (h : Moved p a b d d') (k : Moved p a b d' d'') : Moved p a b d d'' := by
  obtain ⟨P, S, S', Q, rfl, rfl, h3, h4, h5⟩ := h
  obtain ⟨P2, T, T', Q2, k1, rfl, k3, k4, k5⟩ := k
  have e1 := List.append_inj k1 (by omega)
  have e2 := List.append_inj e1.2 (by have := h5.length; omega)
  obtain ⟨rfl, _⟩ := e1
  obtain ⟨rfl, rfl⟩ := e2
  exact ⟨P, S, T', Q, rfl, rfl, h3, h4, h5.trans p k5⟩

theorem Moved.mono {a b a' b' : Nat} {d d' : List α} (h : Moved p a b d d') (ha : a' ≤ a) (hb : b ≤ b') (hl : b' ≤ d.length) : Moved p a' b' d d' := by
  obtain ⟨P, S, S', Q, rfl, rfl, h3, h4, h5⟩ := h
  simp only [List.length_append] at hl
  refine ⟨P.take a', P.drop a' ++ (S ++ Q.take (b' - b)), P.drop a' ++ (S' ++ Q.take (b' - b)), Q.drop (b' - b), ?_, ?_, ?_, ?_, ?_⟩
  · simp only [List.append_assoc]
    rw [List.take_append_drop, ← List.append_assoc (P.take a'), List.take_append_drop]
  · simp only [List.append_assoc]
    rw [List.take_append_drop, ← List.append_assoc (P.take a'), List.take_append_drop]
  · simp; omega
  · simp; omega
  · exact (SE.refl p _).app p (h5.app p (SE.refl p _))

/-- What lies outside has not turned. -/
theorem Moved.out {a b : Nat} {d d' : List α} (h : Moved p a b d d') (t : Nat) (ht : t < a ∨ b ≤ t) : d'[t]? = d[t]? := by
  obtain ⟨P, S, S', Q, rfl, rfl, h3, h4, h5⟩ := h
  have hl := h5.length
  rcases ht with ht | ht
  · rw [List.getElem?_append_left (by omega), List.getElem?_append_left (by omega)]
  · rw [List.getElem?_append_right (by omega), List.getElem?_append_right (by omega), List.getElem?_append_right (by omega), List.getElem?_append_right (by omega)]
    congr 1; omega


/-! ### By the element's number -/
/-- The class of element t ('z' where there is none). -/
def mu (z : α) (d : List α) (t : Nat) : Bool := p (d[t]?.getD z)
theorem mu_eq {z : α} {d d' : List α} {t u : Nat} (h : d'[t]? = d[u]?) : mu p z d' t = mu p z d u := by unfold mu; rw [h]
theorem Moved.mu_out {z : α} {a b : Nat} {d d' : List α} (h : Moved p a b d d') (t : Nat) (ht : t < a ∨ b ≤ t) : mu p z d' t = mu p z d t := mu_eq p (h.out p t ht)

theorem mem_sec {z : α} {P S Q : List α} {c : Bool} : (∀ t, P.length ≤ t → t < P.length + S.length → mu p z (P ++ (S ++ Q)) t = c) ↔ ∀ x ∈ S, p x = c := by
  constructor
  · intro h x hx
    obtain ⟨u, hu, rfl⟩ := List.getElem_of_mem hx
    have := h (P.length + u) (by omega) (by omega)
    unfold mu at this
    rw [List.getElem?_append_right (by omega), List.getElem?_append_left (by omega), List.getElem?_eq_getElem (by omega)] at this
    simpa using this
  · intro h t h1 h2
    unfold mu
    rw [List.getElem?_append_right (by omega), List.getElem?_append_left (by omega), List.getElem?_eq_getElem (by omega)]
    exact h _ (List.getElem_mem _)

/-- A stretch of one class alone stays of that class. -/
theorem Moved.all {z : α} {a b : Nat} {d d' : List α} (h : Moved p a b d d') (c : Bool) (hc : ∀ t, a ≤ t → t < b → mu p z d t = c) : ∀ t, a ≤ t → t < b → mu p z d' t = c := by
  obtain ⟨P, S, S', Q, rfl, rfl, rfl, rfl, h5⟩ := h
  have hS := (mem_sec p).1 hc
  rw [h5.length]
  refine (mem_sec p).2 ?_
  cases c with
  | true =>
    have : S'.filter (fun x => !p x) = [] := by rw [← h5.2]; exact List.filter_eq_nil_iff.2 fun x hx => by simp [hS x hx]
    intro x hx
    have := List.filter_eq_nil_iff.1 this x hx
    simpa using this
  | false =>
    have : S'.filter p = [] := by rw [← h5.1]; exact List.filter_eq_nil_iff.2 fun x hx => by simp [hS x hx]
    intro x hx
    have := List.filter_eq_nil_iff.1 this x hx
    simpa using this

/-- From a on and before k: the first class; from k on and before b: the second. -/
def Parted (z : α) (d : List α) (a b k : Nat) : Prop := a ≤ k ∧ k ≤ b ∧ (∀ t, a ≤ t → t < k → mu p z d t = true) ∧ ∀ t, k ≤ t → t < b → mu p z d t = false

theorem Parted.out {z : α} {a b k a' b' : Nat} {d d' : List α} (h : Parted p z d a b k) (hm : Moved p a' b' d d') (ho : b ≤ a' ∨ b' ≤ a) : Parted p z d' a b k :=
  ⟨h.1, h.2.1, fun t h1 h2 => by rw [hm.mu_out p t (by have := h.2.1; omega)]; exact h.2.2.1 t h1 h2, fun t h1 h2 => by rw [hm.mu_out p t (by have := h.1; omega)]; exact h.2.2.2 t h1 h2⟩

/-! ### Two elements change places -/
def sw (i j t : Nat) : Nat := if t = i then j else if t = j then i else t
def swp (z : α) (d : List α) (i j : Nat) : List α := (d.set i (d[j]?.getD z)).set j (d[i]?.getD z)
theorem swp_length (z : α) (d : List α) (i j : Nat) : (swp z d i j).length = d.length := by simp [swp]
theorem swp_get (z : α) (d : List α) (i j : Nat) (hi : i < d.length) (hj : j < d.length) (t : Nat) : (swp z d i j)[t]? = d[sw i j t]? := by
  unfold swp sw
  simp only [List.getElem?_set, List.length_set]
  by_cases h1 : t = i
  · subst h1
    by_cases h2 : j = t
    · subst h2; simp [hi]
    · simp [h2, hi, hj]
  · by_cases h2 : t = j
    · subst h2; simp [h1, hi, hj]
    · simp [h1, h2, Ne.symm h1, Ne.symm h2]

/-- A list is told by its elements. -/
theorem of_get {d d' : List α} {a n m : Nat} (h : ∀ t, d'[t]? = d[if a ≤ t ∧ t < a + m then t + n else if a + m ≤ t ∧ t < a + m + n then t - m else t]?) (hl : a + n + m ≤ d.length) :
    d' = d.take a ++ ((d.drop (a + n)).take m ++ ((d.drop a).take n ++ d.drop (a + n + m))) := by
  refine List.ext_getElem? fun t => ?_
  rw [h t]
  by_cases h1 : t < a
  · rw [if_neg (by omega), if_neg (by omega), List.getElem?_append_left (by simp; omega), List.getElem?_take, if_pos h1]
  · have l1 : (d.take a).length = a := by simp; omega
    have l2 : ((d.drop (a + n)).take m).length = m := by simp; omega
    have l3 : ((d.drop a).take n).length = n := by simp; omega
    rw [List.getElem?_append_right (by omega), l1]
    by_cases h2 : t < a + m
    · rw [if_pos (by omega), List.getElem?_append_left (by omega), List.getElem?_take, if_pos (by omega), List.getElem?_drop]
      congr 1; omega
    · rw [if_neg (by omega), List.getElem?_append_right (by omega), l2]
      by_cases h3 : t < a + m + n
      · rw [if_pos (by omega), List.getElem?_append_left (by omega), List.getElem?_take, if_pos (by omega), List.getElem?_drop]
        congr 1; omega
      · rw [if_neg (by omega), List.getElem?_append_right (by omega), l3, List.getElem?_drop]
        congr 1; omega
theorem cut4 (d : List α) (a n m : Nat) : d = d.take a ++ ((d.drop a).take n ++ ((d.drop (a + n)).take m ++ d.drop (a + n + m))) := by
  rw [show d.drop (a + n + m) = (d.drop (a + n)).drop m by rw [List.drop_drop], List.take_append_drop, show d.drop (a + n) = (d.drop a).drop n by rw [List.drop_drop], List.take_append_drop, List.take_append_drop]

/-- n elements of the second class and m of the first behind them change places. -/
theorem Moved.turn {z : α} {d d' : List α} {a n m : Nat} (h : ∀ t, d'[t]? = d[if a ≤ t ∧ t < a + m then t + n else if a + m ≤ t ∧ t < a + m + n then t - m else t]?) (hl : a + n + m ≤ d.length)
    (h1 : ∀ t, a ≤ t → t < a + n → mu p z d t = false) (h2 : ∀ t, a + n ≤ t → t < a + n + m → mu p z d t = true) : Moved p a (a + n + m) d d' := by
  have e := of_get h hl
  have c := cut4 d a n m
  have l1 : (d.take a).length = a := by simp; omega
  have l2 : ((d.drop (a + n)).take m).length = m := by simp; omega
  have l3 : ((d.drop a).take n).length = n := by simp; omega
  refine ⟨d.take a, (d.drop a).take n ++ (d.drop (a + n)).take m, (d.drop (a + n)).take m ++ (d.drop a).take n, d.drop (a + n + m), by rw [List.append_assoc]; exact c, by rw [List.append_assoc]; exact e, l1, by rw [List.length_append]; omega, ?_⟩
  refine SE.exch p ?_ ?_
  · refine (mem_sec p (z := z) (P := d.take a) (Q := (d.drop (a + n)).take m ++ d.drop (a + n + m))).1 fun t t1 t2 => ?_
    rw [← c]; exact h1 t (by omega) (by omega)
  · refine (mem_sec p (z := z) (P := d.take a ++ (d.drop a).take n) (Q := d.drop (a + n + m))).1 fun t t1 t2 => ?_
    rw [List.length_append] at t1 t2
    rw [List.append_assoc, ← c]; exact h2 t (by omega) (by omega)

/-- Two neighbours, the second class ahead of the first, change places. -/
theorem Moved.swap {z : α} {d : List α} {k : Nat} (hk : k + 1 < d.length) (h1 : mu p z d k = false) (h2 : mu p z d (k + 1) = true) : Moved p k (k + 2) d (swp z d k (k + 1)) := by
  refine Moved.turn p (z := z) (n := 1) (m := 1) (fun t => ?_) (by omega) (fun t t1 t2 => ?_) (fun t t1 t2 => ?_)
  · rw [swp_get z d k (k + 1) (by omega) hk]
    congr 1
    unfold sw
    split
    · rw [if_pos (by omega)]; omega
    · split
      · rw [if_neg (by omega), if_pos (by omega)]; omega
      · rw [if_neg (by omega), if_neg (by omega)]
  · rw [show t = k by omega]; exact h1
  · rw [show t = k + 1 by omega]; exact h2
theorem swp_comm (z : α) (d : List α) (i j : Nat) (hi : i < d.length) (hj : j < d.length) : swp z d i j = swp z d j i := by
  refine List.ext_getElem? fun t => ?_
  rw [swp_get z d i j hi hj, swp_get z d j i hj hi]
  congr 1
  unfold sw
  split <;> split <;> omega

end Go.Proofs.Qxb6615667a.Plain
