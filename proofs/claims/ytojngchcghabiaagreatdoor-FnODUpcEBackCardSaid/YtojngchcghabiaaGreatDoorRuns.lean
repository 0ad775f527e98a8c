/-
  Plain facts about rows of runs: a row that is made of runs of alternating colours, what stands at a place of it, and how the counters of such runs grow. No program.
-/
namespace Go.Proofs.YtojngchcghabiaaGreatDoor

/-- Runs of alternating colours. -/
def bars : Bool → List Nat → List Bool
  | _, [] => []
  | c, n :: ns => List.replicate n c ++ bars (!c) ns

/-- The number of whole runs ahead of place t. -/
def idx : List Nat → Nat → Nat
  | [], _ => 0
  | n :: ns, t => if t < n then 0 else 1 + idx ns (t - n)

/-- How much of each run lies ahead of place t. -/
def cnt : List Nat → Nat → List Nat
  | [], _ => []
  | n :: ns, t => min n t :: cnt ns (t - n)

/-- The colour of the k-th run. -/
def hue (c : Bool) (k : Nat) : Bool := if k % 2 = 1 then !c else c

theorem hue_zero (c : Bool) : hue c 0 = c := rfl
theorem hue_succ (c : Bool) (k : Nat) : hue c (k + 1) = !(hue c k) := by
  unfold hue
  rcases Nat.mod_two_eq_zero_or_one k with h | h
  · rw [if_pos (by omega), if_neg (by omega)]
  · rw [if_neg (by omega), if_pos h]; simp
theorem hue_not (c : Bool) (k : Nat) : hue (!c) k = hue c (k + 1) := by
  rw [hue_succ]; unfold hue; split <;> simp

theorem bars_length (c : Bool) (ns : List Nat) : (bars c ns).length = ns.sum := by
  induction ns generalizing c with
  | nil => rfl
  | cons n ns ih => simp [bars, ih]

theorem bars_append (c : Bool) (ms ns : List Nat) : bars c (ms ++ ns) = bars c ms ++ bars (hue c ms.length) ns := by
  induction ms generalizing c with
  | nil => simp [bars, hue]
  | cons m ms ih => simp only [List.cons_append, bars, ih, List.append_assoc, List.length_cons]; rw [hue_not]

theorem bars_get (ns : List Nat) (c : Bool) (t : Nat) (h : t < ns.sum) : (bars c ns)[t]? = some (hue c (idx ns t)) := by
  induction ns generalizing c t with
  | nil => simp at h
  | cons n ns ih =>
    simp only [List.sum_cons] at h
    by_cases ht : t < n
    · simp [bars, idx, ht, hue, List.getElem?_append]
    · have := ih (!c) (t - n) (by omega)
      simp only [bars, idx, if_neg ht]
      rw [List.getElem?_append_right (by simp; omega)]
      simp only [List.length_replicate]
      rw [this, hue_not, Nat.add_comm]

theorem idx_lt (ns : List Nat) (t : Nat) (h : t < ns.sum) : idx ns t < ns.length := by
  induction ns generalizing t with
  | nil => simp at h
  | cons n ns ih =>
    simp only [List.sum_cons] at h
    unfold idx
    split
    · simp
    · have := ih (t - n) (by omega); simp; omega

theorem idx_sum (ns : List Nat) : idx ns ns.sum = ns.length := by
  induction ns with
  | nil => rfl
  | cons n ns ih =>
    unfold idx
    rw [if_neg (by simp), List.sum_cons, Nat.add_sub_cancel_left, ih, List.length_cons, Nat.add_comm]

theorem idx_zero (ns : List Nat) (hp : ∀ n ∈ ns, 0 < n) : idx ns 0 = 0 := by
  cases ns with
  | nil => rfl
  | cons n ns => unfold idx; rw [if_pos (hp n (by simp))]

/-- The place behind the last whole one lies in the same run or in the next. -/
theorem idx_step (ns : List Nat) (hp : ∀ n ∈ ns, 0 < n) (t : Nat) (h : t < ns.sum) : idx ns (t + 1) = idx ns t ∨ idx ns (t + 1) = idx ns t + 1 := by
  induction ns generalizing t with
  | nil => simp at h
  | cons n ns ih =>
    simp only [List.sum_cons] at h
    have hn := hp n (by simp)
    have hp' : ∀ m ∈ ns, 0 < m := fun m hm => hp m (by simp [hm])
    unfold idx
    by_cases h1 : t + 1 < n
    · rw [if_pos h1, if_pos (by omega)]; exact Or.inl rfl
    · rw [if_neg h1]
      by_cases h2 : t < n
      · rw [if_pos h2]
        have : t + 1 - n = 0 := by omega
        rw [this, idx_zero ns hp']; exact Or.inr rfl
      · rw [if_neg h2]
        rcases ih hp' (t - n) (by omega) with h3 | h3
        · left; rw [show t + 1 - n = t - n + 1 by omega, h3]
        · right; rw [show t + 1 - n = t - n + 1 by omega, h3]; omega

theorem cnt_length (ns : List Nat) (t : Nat) : (cnt ns t).length = ns.length := by
  induction ns generalizing t with
  | nil => rfl
  | cons n ns ih => simp [cnt, ih]

theorem cnt_zero (ns : List Nat) : cnt ns 0 = List.replicate ns.length 0 := by
  induction ns with
  | nil => rfl
  | cons n ns ih => simp [cnt, ih, List.replicate_succ]

theorem cnt_sum (ns : List Nat) (t : Nat) (h : ns.sum ≤ t) : cnt ns t = ns := by
  induction ns generalizing t with
  | nil => rfl
  | cons n ns ih =>
    simp only [List.sum_cons] at h
    simp only [cnt]
    rw [ih (t - n) (by omega), Nat.min_eq_left (by omega)]

/-- A place more: the run in which it lies has grown by one. -/
theorem cnt_step (ns : List Nat) (t : Nat) (h : t < ns.sum) : cnt ns (t + 1) = (cnt ns t).set (idx ns t) ((cnt ns t).getD (idx ns t) 0 + 1) := by
  induction ns generalizing t with
  | nil => simp at h
  | cons n ns ih =>
    simp only [List.sum_cons] at h
    by_cases h1 : t < n
    · simp only [cnt, idx, if_pos h1, List.set_cons_zero, List.getD_cons_zero]
      rw [show t + 1 - n = t - n by omega]
      congr 1
      omega
    · have := ih (t - n) (by omega)
      simp only [cnt, idx, if_neg h1]
      rw [show t + 1 - n = t - n + 1 by omega, this, Nat.add_comm 1, List.set_cons_succ, List.getD_cons_succ]
      congr 1
      omega

/-- Where a run begins its counter is still nought. -/
theorem cnt_fresh (ns : List Nat) (hp : ∀ n ∈ ns, 0 < n) (t : Nat) (h : t + 1 < ns.sum) (h1 : idx ns (t + 1) = idx ns t + 1) : (cnt ns (t + 1)).getD (idx ns (t + 1)) 0 = 0 := by
  induction ns generalizing t with
  | nil => simp at h
  | cons n ns ih =>
    simp only [List.sum_cons] at h
    have hn := hp n (by simp)
    have hp' : ∀ m ∈ ns, 0 < m := fun m hm => hp m (by simp [hm])
    unfold idx at h1 ⊢
    by_cases ha : t + 1 < n
    · rw [if_pos ha, if_pos (by omega)] at h1; omega
    · rw [if_neg ha] at h1 ⊢
      simp only [cnt]
      rw [Nat.add_comm 1, List.getD_cons_succ]
      by_cases hb : t < n
      · have : t + 1 - n = 0 := by omega
        rw [this, cnt_zero, idx_zero ns hp']
        cases ns <;> simp
      · rw [if_neg hb] at h1
        rw [show t + 1 - n = t - n + 1 by omega] at h1 ⊢
        exact ih hp' (t - n) (by omega) (by omega)

theorem cnt_le (ns : List Nat) (t k : Nat) : (cnt ns t).getD k 0 ≤ t := by
  induction ns generalizing t k with
  | nil => simp [cnt]
  | cons n ns ih =>
    cases k with
    | zero => simp [cnt]; omega
    | succ k => simp only [cnt, List.getD_cons_succ]; have := ih (t - n) k; omega

/-- The run of the place ahead of t. -/
def pos (ns : List Nat) (t : Nat) : Nat := idx ns (t - 1)

theorem pos_zero (ns : List Nat) (hp : ∀ n ∈ ns, 0 < n) : pos ns 0 = 0 := idx_zero ns hp
theorem pos_succ (ns : List Nat) (t : Nat) : pos ns (t + 1) = idx ns t := rfl
theorem pos_lt (ns : List Nat) (t : Nat) (h : t ≤ ns.sum) (h0 : 0 < ns.sum) : pos ns t < ns.length := idx_lt ns (t - 1) (by omega)

theorem pos_or (ns : List Nat) (hp : ∀ n ∈ ns, 0 < n) (t : Nat) (h : t ≤ ns.sum) : idx ns t = pos ns t ∨ (idx ns t = pos ns t + 1 ∧ 0 < t) := by
  cases t with
  | zero => exact Or.inl rfl
  | succ t =>
    rcases idx_step ns hp t (by omega) with h1 | h1
    · exact Or.inl h1
    · exact Or.inr ⟨h1, by omega⟩

/-- One place more in the same run. -/
theorem cnt_same (ns : List Nat) (t : Nat) (h : t < ns.sum) (h1 : idx ns t = pos ns t) : cnt ns (t + 1) = (cnt ns t).set (pos ns t) ((cnt ns t).getD (pos ns t) 0 + 1) := by
  rw [cnt_step ns t h, h1]

/-- One place more, the first of the next run. -/
theorem cnt_next (ns : List Nat) (hp : ∀ n ∈ ns, 0 < n) (t : Nat) (h : t < ns.sum) (h1 : idx ns t = pos ns t + 1) : cnt ns (t + 1) = (cnt ns t).set (pos ns t + 1) 1 := by
  cases t with
  | zero => have := pos_zero ns hp; have := idx_zero ns hp; omega
  | succ t =>
    rw [cnt_step ns _ h, h1]
    have := cnt_fresh ns hp t (by omega) h1
    rw [h1] at this
    rw [this]

/-- The last place of all lies in the last run. -/
theorem pos_last (ns : List Nat) (hp : ∀ n ∈ ns, 0 < n) (h0 : 0 < ns.sum) : pos ns ns.sum + 1 = ns.length := by
  have h1 := idx_sum ns
  rcases pos_or ns hp ns.sum (Nat.le_refl _) with h2 | h2
  · have := pos_lt ns ns.sum (Nat.le_refl _) h0; omega
  · omega

end Go.Proofs.YtojngchcghabiaaGreatDoor
