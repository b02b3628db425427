/-
  Plain laws on a search tree that lies in arrays: V the values, L and R the links. No Go in sight.
-/
import Derived.Test.YbulkczzoPlain
namespace Go.Proofs.Ybulkczzo

/-- under node k lie, in order, the keys ks lo .. ks (hi - 1), at nodes a .. b - 1 -/
def Tree (ks V L R : Nat → Int) (a b : Nat) : Nat → Int → Nat → Nat → Prop
  | 0, k, lo, hi => k = -1 ∧ hi ≤ lo
  | d + 1, k, lo, hi => (k = -1 ∧ hi ≤ lo) ∨ ∃ i m : Nat, k = (i : Int) ∧ lo ≤ m ∧ m < hi ∧ a ≤ i ∧ i < b ∧ V i = ks m ∧ Tree ks V L R a b d (L i) lo m ∧ Tree ks V L R a b d (R i) (m + 1) hi

theorem Tree.none {ks V L R : Nat → Int} {a b d lo hi : Nat} (h : hi ≤ lo) : Tree ks V L R a b d (-1) lo hi := by
  cases d with
  | zero => exact ⟨rfl, h⟩
  | succ d => exact Or.inl ⟨rfl, h⟩

theorem Tree.more {ks V L R : Nat → Int} {a b : Nat} : ∀ {d : Nat} {k : Int} {lo hi : Nat}, Tree ks V L R a b d k lo hi → Tree ks V L R a b (d + 1) k lo hi
  | 0, _, _, _, h => Or.inl h
  | d + 1, _, _, _, h => by
    rcases h with h | ⟨i, m, h1, h2, h3, h4, h5, h6, h7, h8⟩
    · exact Or.inl h
    · exact Or.inr ⟨i, m, h1, h2, h3, h4, h5, h6, h7.more, h8.more⟩

theorem Tree.fuel {ks V L R : Nat → Int} {a b d : Nat} {k : Int} {lo hi : Nat} (h : Tree ks V L R a b d k lo hi) (e : Nat) (he : d ≤ e) : Tree ks V L R a b e k lo hi := by
  induction e with
  | zero => obtain rfl : d = 0 := by omega
            exact h
  | succ e ih =>
    by_cases g : d = e + 1
    · subst g; exact h
    · exact (ih (by omega)).more

theorem Tree.carry {ks V L R V' L' R' : Nat → Int} {a b a' b' : Nat} (ha : a' ≤ a) (hb : b ≤ b') (hs : ∀ i, a ≤ i → i < b → V' i = V i ∧ L' i = L i ∧ R' i = R i) :
    ∀ {d : Nat} {k : Int} {lo hi : Nat}, Tree ks V L R a b d k lo hi → Tree ks V' L' R' a' b' d k lo hi
  | 0, _, _, _, h => h
  | d + 1, _, _, _, h => by
    rcases h with h | ⟨i, m, h1, h2, h3, h4, h5, h6, h7, h8⟩
    · exact Or.inl h
    · obtain ⟨e1, e2, e3⟩ := hs i h4 h5
      refine Or.inr ⟨i, m, h1, h2, h3, by omega, by omega, by rw [e1]; exact h6, ?_, ?_⟩
      · rw [e2]; exact Tree.carry ha hb hs h7
      · rw [e3]; exact Tree.carry ha hb hs h8

/-- the keys strictly ascend -/
def Asc (ks : Nat → Int) (K : Nat) : Prop := ∀ i j, i < j → j < K → ks i < ks j

/-- the search for x, at node k -/
def Seek (ks V L R : Nat → Int) (a b K : Nat) (x : Int) (d : Nat) (k : Int) : Prop :=
  ∃ lo hi, Tree ks V L R a b d k lo hi ∧ hi ≤ K ∧ ∀ j, j < K → ks j = x → lo ≤ j ∧ j < hi

theorem Seek.start {ks V L R : Nat → Int} {a b K d : Nat} {k x : Int} (h : Tree ks V L R a b d k 0 K) : Seek ks V L R a b K x d k := ⟨0, K, h, Nat.le_refl _, fun j hj _ => ⟨by omega, hj⟩⟩

theorem Seek.miss {ks V L R : Nat → Int} {a b K d : Nat} {k x : Int} (h : Seek ks V L R a b K x d k) (hk : k < 0) : k = -1 ∧ ∀ j, j < K → ks j ≠ x := by
  obtain ⟨lo, hi, ht, _, hj⟩ := h
  have key : k = -1 ∧ hi ≤ lo := by
    cases d with
    | zero => exact ht
    | succ d =>
      rcases ht with h | ⟨i, m, h1, _⟩
      · exact h
      · omega
  exact ⟨key.1, fun j h1 h2 => by have := hj j h1 h2; omega⟩

theorem Seek.node {ks V L R : Nat → Int} {a b K d : Nat} {k x : Int} (hA : Asc ks K) (h : Seek ks V L R a b K x d k) (hk : ¬ k < 0) :
    ∃ (i e : Nat), k = (i : Int) ∧ d = e + 1 ∧ a ≤ i ∧ i < b ∧ (∃ m, m < K ∧ V i = ks m) ∧ (x < V i → Seek ks V L R a b K x e (L i)) ∧ (V i < x → Seek ks V L R a b K x e (R i)) := by
  obtain ⟨lo, hi, ht, hK, hj⟩ := h
  cases d with
  | zero => have := ht.1; omega
  | succ e =>
    rcases ht with h | ⟨i, m, h1, h2, h3, h4, h5, h6, h7, h8⟩
    · have := h.1; omega
    · refine ⟨i, e, h1, rfl, h4, h5, ⟨m, by omega, h6⟩, fun hx => ⟨lo, m, h7, by omega, fun j g1 g2 => ?_⟩, fun hx => ⟨m + 1, hi, h8, hK, fun j g1 g2 => ?_⟩⟩
      · have := hj j g1 g2
        refine ⟨this.1, ?_⟩
        rcases Nat.lt_trichotomy j m with h | h | h
        · exact h
        · subst h; omega
        · have := hA m j h g1; omega
      · have := hj j g1 g2
        refine ⟨?_, this.2⟩
        rcases Nat.lt_trichotomy j m with h | h | h
        · have := hA j m h (by omega); omega
        · subst h; omega
        · omega
end Go.Proofs.Ybulkczzo
