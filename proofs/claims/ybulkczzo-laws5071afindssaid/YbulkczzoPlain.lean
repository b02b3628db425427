/-
  Plain laws on the greatest and on the counts of a list of numbers. No Go in sight.
-/
namespace Go.Proofs.Ybulkczzo

/-- f with another value at k -/
def upd {α : Type} (f : Nat → α) (k : Nat) (v : α) : Nat → α := fun i => if i = k then v else f i
theorem upd_same {α : Type} (f : Nat → α) (k : Nat) (v : α) : upd f k v k = v := by simp [upd]
theorem upd_other {α : Type} (f : Nat → α) (k i : Nat) (v : α) (h : i ≠ k) : upd f k v i = f i := by simp [upd, h]

/-- the greatest of f's first k numbers, at least 0 -/
def maxTo (f : Nat → Int) : Nat → Int
  | 0 => 0
  | k + 1 => if maxTo f k < f k then f k else maxTo f k

/-- how many of f's first k numbers are v -/
def cnt (f : Nat → Int) : Nat → Int → Int
  | 0, _ => 0
  | k + 1, v => cnt f k v + if f k = v then 1 else 0

theorem maxTo_nonneg (f : Nat → Int) (n : Nat) : 0 ≤ maxTo f n := by
  induction n with
  | zero => simp [maxTo]
  | succ n ih => unfold maxTo; split <;> omega

theorem le_maxTo (f : Nat → Int) (n i : Nat) (h : i < n) : f i ≤ maxTo f n := by
  induction n with
  | zero => omega
  | succ n ih =>
    unfold maxTo
    by_cases e : i = n
    · subst e; split <;> omega
    · have := ih (by omega); split <;> omega

theorem maxTo_mem (f : Nat → Int) (n : Nat) : maxTo f n = 0 ∨ ∃ i, i < n ∧ f i = maxTo f n := by
  induction n with
  | zero => left; rfl
  | succ n ih =>
    unfold maxTo
    split
    · right; exact ⟨n, by omega, rfl⟩
    · rcases ih with h | ⟨i, hi, he⟩
      · left; exact h
      · right; exact ⟨i, by omega, he⟩

theorem maxTo_uniq (f : Nat → Int) (n : Nat) (m : Int) (h0 : 0 ≤ m) (hle : ∀ i, i < n → f i ≤ m) (hm : m = 0 ∨ ∃ i, i < n ∧ f i = m) : maxTo f n = m := by
  have h1 := maxTo_nonneg f n
  rcases maxTo_mem f n with h | ⟨i, hi, he⟩
  · rcases hm with h2 | ⟨j, hj, h2⟩
    · omega
    · have := le_maxTo f n j hj; omega
  · have h3 := hle i hi
    rcases hm with h2 | ⟨j, hj, h2⟩
    · omega
    · have := le_maxTo f n j hj; omega

theorem maxTo_le (f : Nat → Int) (n : Nat) (b : Int) (h0 : 0 ≤ b) (h : ∀ i, i < n → f i ≤ b) : maxTo f n ≤ b := by
  rcases maxTo_mem f n with h1 | ⟨i, hi, he⟩
  · omega
  · have := h i hi; omega

theorem cnt_nonneg (f : Nat → Int) (n : Nat) (v : Int) : 0 ≤ cnt f n v := by
  induction n with
  | zero => simp [cnt]
  | succ n ih => unfold cnt; split <;> omega

theorem cnt_le (f : Nat → Int) (n : Nat) (v : Int) : cnt f n v ≤ n := by
  induction n with
  | zero => simp [cnt]
  | succ n ih => unfold cnt; split <;> omega

theorem cnt_zero (f : Nat → Int) (n : Nat) (v : Int) : cnt f n v = 0 ↔ ∀ i, i < n → f i ≠ v := by
  induction n with
  | zero => simp [cnt]
  | succ n ih =>
    have h0 := cnt_nonneg f n v
    unfold cnt
    constructor
    · intro h
      by_cases e : f n = v
      · rw [if_pos e] at h; omega
      · rw [if_neg e] at h
        intro i hi
        by_cases g : i = n
        · subst g; exact e
        · exact ih.mp (by omega) i (by omega)
    · intro h
      rw [if_neg (h n (by omega)), ih.mpr (fun i hi => h i (by omega))]; rfl

theorem cnt_congr (f g : Nat → Int) (n : Nat) (v : Int) (h : ∀ i, i < n → f i = g i) : cnt f n v = cnt g n v := by
  induction n with
  | zero => rfl
  | succ n ih => unfold cnt; rw [ih (fun i hi => h i (by omega)), h n (by omega)]

theorem cnt_upd (f : Nat → Int) (n i : Nat) (x v : Int) (hi : i < n) : cnt (upd f i x) n v = cnt f n v - (if f i = v then 1 else 0) + (if x = v then 1 else 0) := by
  induction n with
  | zero => omega
  | succ n ih =>
    unfold cnt
    by_cases e : i = n
    · subst e
      rw [upd_same, cnt_congr (upd f i x) f i v (fun j hj => upd_other _ _ _ _ (by omega))]
      omega
    · rw [upd_other _ _ _ _ (by omega), ih (by omega)]
      omega

/-- beside i no other of the first n is v exactly if one is counted -/
theorem cnt_one (f : Nat → Int) (n i : Nat) (v : Int) (hi : i < n) (hv : f i = v) (h0 : 0 ≤ v) : cnt f n v - 1 = 0 ↔ ∀ j, j < n → j ≠ i → f j ≠ v := by
  have h := cnt_upd f n i (-1) v hi
  rw [if_pos hv, if_neg (by omega)] at h
  have hz := cnt_zero (upd f i (-1)) n v
  constructor
  · intro hc j hj hne
    have := hz.mp (by omega) j hj
    rw [upd_other _ _ _ _ hne] at this
    exact this
  · intro hall
    have : cnt (upd f i (-1)) n v = 0 := hz.mpr (fun j hj => by
      by_cases e : j = i
      · subst e; rw [upd_same]; omega
      · rw [upd_other _ _ _ _ e]; exact hall j hj e)
    omega

/-- one queue that is not empty becomes one shorter: the greatest -/
theorem max_shrank (f : Nat → Int) (n i : Nat) (hi : i < n) (h1 : 1 ≤ f i) :
    maxTo (upd f i (f i - 1)) n = if f i = maxTo f n ∧ cnt f n (f i) - 1 = 0 then maxTo f n - 1 else maxTo f n := by
  have hm0 := maxTo_nonneg f n
  have hle := le_maxTo f n
  have hi' := hle i hi
  split
  · rename_i h
    have hone := (cnt_one f n i (f i) hi rfl (by omega)).mp h.2
    refine maxTo_uniq _ _ _ (by omega) ?_ (Or.inr ⟨i, hi, by rw [upd_same]; omega⟩)
    intro j hj
    by_cases e : j = i
    · subst e; rw [upd_same]; omega
    · rw [upd_other _ _ _ _ e]
      have a := hle j hj
      have b := hone j hj e
      omega
  · rename_i h
    have hex : ∃ k, k < n ∧ k ≠ i ∧ f k = maxTo f n := by
      by_cases e : f i = maxTo f n
      · have hn : ¬ ∀ j, j < n → j ≠ i → f j ≠ f i := fun g => h ⟨e, (cnt_one f n i (f i) hi rfl (by omega)).mpr g⟩
        by_cases g : ∃ k, k < n ∧ k ≠ i ∧ f k = maxTo f n
        · exact g
        · exact absurd (fun j hj hne hv => g ⟨j, hj, hne, by omega⟩) hn
      · rcases maxTo_mem f n with h2 | ⟨k, hk, h2⟩
        · omega
        · exact ⟨k, hk, fun g => e (by rw [← g]; exact h2), h2⟩
    obtain ⟨k, hk, hne, hv⟩ := hex
    refine maxTo_uniq _ _ _ hm0 ?_ (Or.inr ⟨k, hk, by rw [upd_other _ _ _ _ hne]; exact hv⟩)
    intro j hj
    by_cases e : j = i
    · subst e; rw [upd_same]; omega
    · rw [upd_other _ _ _ _ e]; exact hle j hj

theorem cnt_above (f : Nat → Int) (n : Nat) (v : Int) (h : maxTo f n < v) : cnt f n v = 0 := by
  rw [cnt_zero]
  intro i hi e
  have := le_maxTo f n i hi
  omega

theorem cnt_max_pos (f : Nat → Int) (n : Nat) (h : 1 ≤ maxTo f n) : cnt f n (maxTo f n) ≠ 0 := by
  intro hz
  rcases maxTo_mem f n with h2 | ⟨k, hk, h2⟩
  · omega
  · exact (cnt_zero f n _).mp hz k hk h2
end Go.Proofs.Ybulkczzo
