/-
  The memory and the plain laws of LawS5057BScript; find and keep as the law meets them.
-/
import Derived.Test.YbulkczsaKeep
import Derived.Test.YbulkczsaScope
namespace Go.Proofs.Ybulkczsa
open Go.RowKit

def rowV (n : Nat) (f : Nat → Value) : Array Value := ((List.range n).map f).toArray
theorem rowV_get (n : Nat) (f : Nat → Value) (i : Nat) (h : i < n) : (rowV n f)[i]? = some (f i) := by
  unfold rowV; simp [h]
theorem rowV_set (n : Nat) (f : Nat → Value) (k : Nat) (v : Value) : (rowV n f).setIfInBounds k v = rowV n (upd f k v) := by
  apply Array.ext_getElem?
  intro i
  rw [Array.getElem?_setIfInBounds]
  unfold rowV upd
  by_cases h : k = i
  · subst h; by_cases hk : k < n <;> simp [hk]
  · simp only [h, if_false]
    by_cases hi : i < n
    · simp [hi]; intro e; exact absurd e.symm h
    · simp [hi]
theorem row_i64 (P : Nat → Int) (k : Nat) (v : Int) : rowV 16 (upd (fun i => .int .i64 (P i)) k (.int .i64 v)) = rowV 16 (fun i => .int .i64 (upd P k v i)) := by
  congr 1; funext i; unfold upd; split <;> rfl
theorem row_u64 (P : Nat → Int) (k : Nat) (v : Int) : rowV 16 (upd (fun i => .int .u64 (P i)) k (.int .u64 v)) = rowV 16 (fun i => .int .u64 (upd P k v i)) := by
  congr 1; funext i; unfold upd; split <;> rfl

/-- the law's memory: the table, the model's three arrays -/
structure Lay2 (wr : World) (N : Nat) (K : Nat → Option KK) (S U : Nat → Int) (R : Nat → Value) (clk : Int) : Prop where
  tab : Tab wr N K clk 0
  ms : Blk wr (N + 1) 48 (rowV 16 fun i => .int .i64 (S i))
  mu : Blk wr (N + 1 + 1) 49 (rowV 16 fun i => .int .u64 (U i))
  mp : Blk wr (N + 1 + 1 + 1) 50 (rowV 16 R)

/-- what is known of the kept keys beside the memory -/
structure Good3 (N : Nat) (K : Nat → Option KK) (S U : Nat → Int) (R : Nat → Value) (clk : Int) : Prop where
  nil : ∀ i, K i = none → S i = -1
  old : ∀ i q, K i = some q → N + 1 + 1 + 1 < q.b
  sid : ∀ i q, K i = some q → 0 ≤ S i ∧ S i < 24
  sc : ∀ i q, K i = some q → q.s0 = secB ∧ q.s1 = dateB ∧ q.s2 = regB ∧ q.s3 = svcB (S i)
  used : ∀ i q, K i = some q → q.u = U i
  rng : ∀ i q, K i = some q → 0 ≤ q.u ∧ q.u ≤ clk
  inj : ∀ i j q r, K i = some q → K j = some r → q.b = r.b → i = j
  ptr : ∀ i, R i = ptrV (K i)
  clk0 : 0 ≤ clk
  out : ∀ i q, K i = some q → i < 16

theorem Lay2.alloc {wr : World} {N : Nat} {K : Nat → Option KK} {S U : Nat → Int} {R : Nat → Value} {clk : Int} (h : Lay2 wr N K S U R clk) (o : Obj) : Lay2 (wr.alloc o) N K S U R clk :=
  ⟨⟨h.tab.tab.alloc o, fun i hi k hk => (h.tab.key i hi k hk).alloc o⟩, h.ms.alloc o, h.mu.alloc o, h.mp.alloc o⟩
theorem Lay2.drew {wr : World} {N : Nat} {K : Nat → Option KK} {S U : Nat → Int} {R : Nat → Value} {clk : Int} (h : Lay2 wr N K S U R clk) : Lay2 wr.drew N K S U R clk :=
  ⟨⟨h.tab.tab, h.tab.key⟩, h.ms, h.mu, h.mp⟩
theorem Lay2.drewN {wr : World} {N : Nat} {K : Nat → Option KK} {S U : Nat → Int} {R : Nat → Value} {clk : Int} (h : Lay2 wr N K S U R clk) (n : Nat) : Lay2 (wr.drewN n) N K S U R clk :=
  ⟨⟨h.tab.tab, h.tab.key⟩, h.ms, h.mu, h.mp⟩

theorem Tab.other {w : World} {T : Nat} {K : Nat → Option KK} {clk st : Int} (h : Tab w T K clk st) (b i : Nat) (v : Value) (h1 : T ≠ b) (h2 : ∀ j q, K j = some q → q.b ≠ b) : Tab (w.setCell ⟨b, i, none⟩ v) T K clk st :=
  ⟨h.tab.other _ _ _ h1, fun j hj q hq => (h.key j hj q hq).other _ _ _ (h2 j q hq)⟩

theorem Lay2.setS {w : World} {N : Nat} {K : Nat → Option KK} {S U : Nat → Int} {R : Nat → Value} {clk : Int} (h : Lay2 w N K S U R clk) (ho : ∀ i q, K i = some q → N + 1 + 1 + 1 < q.b) (k : Nat) (v : Int) :
    Lay2 (w.setCell ⟨N + 1, k, none⟩ (.int .i64 v)) N K (upd S k v) U R clk := by
  refine ⟨h.tab.other _ _ _ (by omega) (fun j q hq => by have := ho j q hq; omega), ?_, h.mu.other _ _ _ (by omega), h.mp.other _ _ _ (by omega)⟩
  have := h.ms.same k (.int .i64 v); rw [rowV_set, row_i64] at this; exact this
theorem Lay2.setU {w : World} {N : Nat} {K : Nat → Option KK} {S U : Nat → Int} {R : Nat → Value} {clk : Int} (h : Lay2 w N K S U R clk) (ho : ∀ i q, K i = some q → N + 1 + 1 + 1 < q.b) (k : Nat) (v : Int) :
    Lay2 (w.setCell ⟨N + 1 + 1, k, none⟩ (.int .u64 v)) N K S (upd U k v) R clk := by
  refine ⟨h.tab.other _ _ _ (by omega) (fun j q hq => by have := ho j q hq; omega), h.ms.other _ _ _ (by omega), ?_, h.mp.other _ _ _ (by omega)⟩
  have := h.mu.same k (.int .u64 v); rw [rowV_set, row_u64] at this; exact this
theorem Lay2.setR {w : World} {N : Nat} {K : Nat → Option KK} {S U : Nat → Int} {R : Nat → Value} {clk : Int} (h : Lay2 w N K S U R clk) (ho : ∀ i q, K i = some q → N + 1 + 1 + 1 < q.b) (k : Nat) (v : Value) :
    Lay2 (w.setCell ⟨N + 1 + 1 + 1, k, none⟩ v) N K S U (upd R k v) clk := by
  refine ⟨h.tab.other _ _ _ (by omega) (fun j q hq => by have := ho j q hq; omega), h.ms.other _ _ _ (by omega), h.mu.other _ _ _ (by omega), ?_⟩
  have := h.mp.same k v; rw [rowV_set] at this; exact this

theorem ptr_upd (K : Nat → Option KK) (j : Nat) (p : KK) (u : Int) (hp : K j = some p) (i : Nat) : ptrV (upd K j (some { p with u := u }) i) = ptrV (K i) := by
  by_cases e : i = j
  · subst e; rw [upd_same, hp]; rfl
  · rw [upd_other _ _ _ _ e]

/-- the first slot of the model that holds scope s, or -1 -/
def Hit (S : Nat → Int) (s e : Int) : Prop :=
  (e = -1 ∧ ∀ i, i < 16 → ¬ S i = s) ∨ ∃ j : Nat, j < 16 ∧ e = (j : Int) ∧ S j = s ∧ ∀ i, i < j → ¬ S i = s

theorem Good3.hit {N : Nat} {K : Nat → Option KK} {S U : Nat → Int} {R : Nat → Value} {clk : Int} (h : Good3 N K S U R clk) (j : Nat) (p : KK) (hp : K j = some p) :
    Good3 N (upd K j (some { p with u := clk })) S (upd U j clk) R clk := by
  have h0 := h.clk0
  refine ⟨?_, ?_, ?_, ?_, ?_, ?_, ?_, ?_, h0, ?_⟩
  · intro i hi
    by_cases e : i = j
    · subst e; rw [upd_same] at hi; cases hi
    · rw [upd_other _ _ _ _ e] at hi; exact h.nil i hi
  · intro i q hq
    by_cases e : i = j
    · subst e; rw [upd_same] at hq; cases hq; exact h.old i p hp
    · rw [upd_other _ _ _ _ e] at hq; exact h.old i q hq
  · intro i q hq
    by_cases e : i = j
    · subst e; exact h.sid i p hp
    · rw [upd_other _ _ _ _ e] at hq; exact h.sid i q hq
  · intro i q hq
    by_cases e : i = j
    · subst e; rw [upd_same] at hq; cases hq; exact h.sc i p hp
    · rw [upd_other _ _ _ _ e] at hq; exact h.sc i q hq
  · intro i q hq
    by_cases e : i = j
    · subst e; rw [upd_same] at hq ⊢; cases hq; rfl
    · rw [upd_other _ _ _ _ e] at hq ⊢; exact h.used i q hq
  · intro i q hq
    by_cases e : i = j
    · subst e; rw [upd_same] at hq; cases hq; exact ⟨h0, Int.le_refl _⟩
    · rw [upd_other _ _ _ _ e] at hq; exact h.rng i q hq
  · intro i k q r hq hr hb
    have key : ∀ i q, upd K j (some { p with u := clk }) i = some q → ∃ q', K i = some q' ∧ q'.b = q.b := by
      intro i q hq
      by_cases e : i = j
      · subst e; rw [upd_same] at hq; cases hq; exact ⟨p, hp, rfl⟩
      · rw [upd_other _ _ _ _ e] at hq; exact ⟨q, hq, rfl⟩
    obtain ⟨q', a1, a2⟩ := key i q hq
    obtain ⟨r', b1, b2⟩ := key k r hr
    exact h.inj i k q' r' a1 b1 (by omega)
  · intro i; rw [ptr_upd K j p clk hp]; exact h.ptr i
  · intro i q hq
    by_cases e : i = j
    · subst e; exact h.out i p hp
    · rw [upd_other _ _ _ _ e] at hq; exact h.out i q hq

theorem Good3.new {N : Nat} {K : Nat → Option KK} {S U : Nat → Int} {R : Nat → Value} {clk : Int} (h : Good3 N K S U R clk) (k : Nat) (hk : k < 16) (d : KK) (s : Int) (hb : N + 1 + 1 + 1 < d.b)
    (hlt : ∀ i q, K i = some q → q.b ≠ d.b) (hs0 : 0 ≤ s) (hs1 : s < 24) (hsc : d.s0 = secB ∧ d.s1 = dateB ∧ d.s2 = regB ∧ d.s3 = svcB s) (hu : d.u = clk + 1) :
    Good3 N (upd K k (some d)) (upd S k s) (upd U k (clk + 1)) (upd R k (ptrV (some d))) (clk + 1) := by
  have h0 := h.clk0
  refine ⟨?_, ?_, ?_, ?_, ?_, ?_, ?_, ?_, by omega, ?_⟩
  · intro i hi
    by_cases e : i = k
    · subst e; rw [upd_same] at hi; cases hi
    · rw [upd_other _ _ _ _ e] at hi ⊢; exact h.nil i hi
  · intro i q hq
    by_cases e : i = k
    · subst e; rw [upd_same] at hq; cases hq; exact hb
    · rw [upd_other _ _ _ _ e] at hq; exact h.old i q hq
  · intro i q hq
    by_cases e : i = k
    · subst e; rw [upd_same]; exact ⟨hs0, hs1⟩
    · rw [upd_other _ _ _ _ e] at hq ⊢; exact h.sid i q hq
  · intro i q hq
    by_cases e : i = k
    · subst e; rw [upd_same] at hq ⊢; cases hq; exact hsc
    · rw [upd_other _ _ _ _ e] at hq ⊢; exact h.sc i q hq
  · intro i q hq
    by_cases e : i = k
    · subst e; rw [upd_same] at hq ⊢; cases hq; exact hu
    · rw [upd_other _ _ _ _ e] at hq ⊢; exact h.used i q hq
  · intro i q hq
    by_cases e : i = k
    · subst e; rw [upd_same] at hq; cases hq; omega
    · rw [upd_other _ _ _ _ e] at hq; have := h.rng i q hq; omega
  · intro i j q r hq hr hqr
    by_cases e : i = k
    · by_cases f : j = k
      · omega
      · subst e; rw [upd_same] at hq; rw [upd_other _ _ _ _ f] at hr; cases hq
        exact absurd hqr.symm (hlt j r hr)
    · by_cases f : j = k
      · subst f; rw [upd_same] at hr; rw [upd_other _ _ _ _ e] at hq; cases hr
        exact absurd hqr (hlt i q hq)
      · rw [upd_other _ _ _ _ e] at hq; rw [upd_other _ _ _ _ f] at hr
        exact h.inj i j q r hq hr hqr
  · intro i
    by_cases e : i = k
    · subst e; rw [upd_same, upd_same]
    · rw [upd_other _ _ _ _ e, upd_other _ _ _ _ e]; exact h.ptr i
  · intro i q hq
    by_cases e : i = k
    · omega
    · rw [upd_other _ _ _ _ e] at hq; exact h.out i q hq

/-- where the model has no hit the table has no key of that scope; where it has one the table has it there first -/
theorem Good3.no {N : Nat} {K : Nat → Option KK} {S U : Nat → Int} {R : Nat → Value} {clk s : Int} (h : Good3 N K S U R clk) (hs0 : 0 ≤ s) (hs1 : s < 24) (i : Nat) (hn : ¬ S i = s) (q : KK) (hq : K i = some q) :
    ¬ (q.s0 = secB ∧ q.s1 = dateB ∧ q.s2 = regB ∧ q.s3 = svcB s) := by
  rintro ⟨_, _, _, h3⟩
  have h4 := (h.sc i q hq).2.2.2
  have h5 := h.sid i q hq
  exact hn (svcB_inj _ _ h5.1 h5.2 hs0 hs1 (h4.symm.trans h3))
theorem Good3.yes {N : Nat} {K : Nat → Option KK} {S U : Nat → Int} {R : Nat → Value} {clk s : Int} (h : Good3 N K S U R clk) (hs0 : 0 ≤ s) (i : Nat) (hn : S i = s) :
    ∃ q, K i = some q ∧ (q.s0 = secB ∧ q.s1 = dateB ∧ q.s2 = regB ∧ q.s3 = svcB s) := by
  cases hq : K i with
  | none => have := h.nil i hq; omega
  | some q => refine ⟨q, rfl, ?_⟩; rw [← hn]; exact h.sc i q hq

/-- the model's choice of a slot -/
def SlotM (S U : Nat → Int) (s : Nat) : Prop :=
  s < 16 ∧ ((S s < 0 ∧ ∀ i, i < s → ¬ S i < 0) ∨ ((∀ i, i < 16 → ¬ S i < 0) ∧ ∀ i, i < 16 → U s ≤ U i ∧ (i < s → U s < U i)))

/-- the first free slot of the model, or -1 -/
def Neg (S : Nat → Int) (x : Int) : Prop :=
  (x = -1 ∧ ∀ i, i < 16 → ¬ S i < 0) ∨ ∃ j : Nat, j < 16 ∧ x = (j : Int) ∧ S j < 0 ∧ ∀ i, i < j → ¬ S i < 0

/-- the least mark of the first m, the first of them -/
def SeekM (U : Nat → Int) (m t : Nat) : Prop := t < m ∧ ∀ i, i < m → U t ≤ U i ∧ (i < t → U t < U i)
theorem SeekM.less {U : Nat → Int} {m t : Nat} (h : SeekM U m t) (hl : U m < U t) : SeekM U (m + 1) m := by
  refine ⟨by omega, fun i hi => ?_⟩
  by_cases e : i = m
  · subst e; omega
  · have := h.2 i (by omega); omega
theorem SeekM.more {U : Nat → Int} {m t : Nat} (h : SeekM U m t) (hl : ¬ U m < U t) : SeekM U (m + 1) t := by
  have h1 := h.1
  refine ⟨by omega, fun i hi => ?_⟩
  by_cases e : i = m
  · subst e; omega
  · exact h.2 i (by omega)

theorem Good3.slot {N : Nat} {K : Nat → Option KK} {S U : Nat → Int} {R : Nat → Value} {clk : Int} (h : Good3 N K S U R clk) {s t : Nat} (hs : Slot K s) (ht : SlotM S U t) : s = t := by
  have hneg : ∀ i, S i < 0 ↔ K i = none := by
    intro i
    constructor
    · intro hi
      cases hq : K i with
      | none => rfl
      | some q => have := h.sid i q hq; omega
    · intro hi; have := h.nil i hi; omega
  have hsm : ∀ i, (∃ q, K i = some q) → ¬ S i < 0 := by
    rintro i ⟨q, hq⟩; have := h.sid i q hq; omega
  have hus : ∀ i, (∃ q, K i = some q) → uOf K i = U i := by
    rintro i ⟨q, hq⟩; rw [uOf_some hq]; exact h.used i q hq
  obtain ⟨s16, hs⟩ := hs
  obtain ⟨t16, ht⟩ := ht
  rcases hs with ⟨hsn, hsl⟩ | ⟨hsa, hsl⟩
  · have hs' := (hneg s).mpr hsn
    rcases ht with ⟨htn, htl⟩ | ⟨hta, _⟩
    · rcases Nat.lt_trichotomy s t with hlt | heq | hgt
      · exact absurd hs' (htl s hlt)
      · exact heq
      · exact absurd htn (hsm t (hsl t hgt))
    · exact absurd hs' (hta s s16)
  · rcases ht with ⟨htn, htl⟩ | ⟨hta, htl⟩
    · exact absurd htn (hsm t (hsa t t16))
    · have a := hsl t t16
      have b := htl s s16
      have es := hus s (hsa s s16)
      have et := hus t (hsa t t16)
      rcases Nat.lt_trichotomy s t with hlt | heq | hgt
      · have := b.2 hlt; omega
      · exact heq
      · have := a.2 hgt; omega

section
variable {w0 : World} {N : Nat} {K : Nat → Option KK} {S U : Nat → Int} {R : Nat → Value} {clk s : Int}

theorem findB_miss (hL : Lay2 w0 N K S U R clk) (hG : Good3 N K S U R clk) (hs0 : 0 ≤ s) (hs1 : s < 24) (hno : ∀ i, i < 16 → ¬ S i = s) :
    Calls Yba.prog 12 #[.pointer (some ⟨N, 0, none⟩), .agg #[.string secB, .string dateB, .string regB, .string (svcB s)]] w0 fun x w' =>
      x = .returned (.pointer none) ∧ Below N w0 w' ∧ Lay2 w' N K S U R clk := by
  have hlt := hL.tab.tab.lt
  refine (find_miss N K clk 0 _ _ _ _ w0 hL.tab (fun i hi k hk => hG.no hs0 hs1 i (hno i hi) k hk)).mono ?_
  rintro x w' ⟨rfl, hf⟩
  exact ⟨rfl, hf.below N (by omega) (fun _ h => h.elim), ⟨hL.tab.fr hf (fun _ _ h => h), hL.ms.fr hf (fun h => h), hL.mu.fr hf (fun h => h), hL.mp.fr hf (fun h => h)⟩⟩

theorem tab_upd (j : Nat) (p : KK) (hp : K j = some p) (u st : Int) : tabCells (upd K j (some { p with u := u })) clk st = tabCells K clk st := by
  unfold tabCells; simp only [ptr_upd K j p u hp]

theorem findB_hit (hL : Lay2 w0 N K S U R clk) (hG : Good3 N K S U R clk) (hs0 : 0 ≤ s) (hs1 : s < 24) (j : Nat) (hj : j < 16) (hS : S j = s) (hno : ∀ i, i < j → ¬ S i = s) :
    Calls Yba.prog 12 #[.pointer (some ⟨N, 0, none⟩), .agg #[.string secB, .string dateB, .string regB, .string (svcB s)]] w0 fun x w' =>
      ∃ p, K j = some p ∧ x = .returned (.pointer (some ⟨p.b, 0, none⟩)) ∧ Below N w0 w' ∧ Lay2 w' N (upd K j (some { p with u := clk })) S U R clk := by
  have hlt := hL.tab.tab.lt
  obtain ⟨p, hp, hps⟩ := hG.yes hs0 j hS
  refine (find_hit N K clk 0 _ _ _ _ w0 hL.tab j p hj hp hps (fun i hi k hk => hG.no hs0 hs1 i (hno i hi) k hk)).mono ?_
  rintro x w' ⟨rfl, hf, hB⟩
  have hpb := hG.old j p hp
  refine ⟨p, hp, rfl, hf.below N (by omega) (fun k h => by omega), ⟨⟨?_, ?_⟩, hL.ms.fr hf (by omega), hL.mu.fr hf (by omega), hL.mp.fr hf (by omega)⟩⟩
  · rw [tab_upd j p hp]; exact hL.tab.tab.fr hf (by omega)
  · intro i hi r hr
    by_cases e : i = j
    · subst e; rw [upd_same] at hr; cases hr; exact hB
    · rw [upd_other _ _ _ _ e] at hr
      exact (hL.tab.key i hi r hr).fr hf (fun h => e (hG.inj i j r p hr hp h))

theorem keepB_hit (hL : Lay2 w0 N K S U R clk) (hG : Good3 N K S U R clk) (hs0 : 0 ≤ s) (hs1 : s < 24) (j : Nat) (hj : j < 16) (hS : S j = s) (hno : ∀ i, i < j → ¬ S i = s)
    (d : KK) (hd : Blk w0 d.b 62 d.cells) (hsc : d.s0 = secB ∧ d.s1 = dateB ∧ d.s2 = regB ∧ d.s3 = svcB s) (hdn : ∀ i q, K i = some q → q.b ≠ d.b) (hdN : N ≠ d.b) :
    Calls Yba.prog 13 #[.pointer (some ⟨N, 0, none⟩), .pointer (some ⟨d.b, 0, none⟩)] w0 fun x w' =>
      ∃ p, K j = some p ∧ x = .returned (.pointer (some ⟨p.b, 0, none⟩)) ∧ Below N w0 w' ∧ Blk w' d.b 62 d.cells ∧ Lay2 w' N (upd K j (some { p with u := clk })) S U R clk := by
  have hlt := hL.tab.tab.lt
  obtain ⟨p, hp, hps⟩ := hG.yes hs0 j hS
  obtain ⟨g0, g1, g2, g3⟩ := hsc
  refine (keep_hit N K clk d w0 hL.tab hd j p hj hp (by rw [g0, g1, g2, g3]; exact hps) (fun i hi k hk => by rw [g0, g1, g2, g3]; exact hG.no hs0 hs1 i (hno i hi) k hk)).mono ?_
  rintro x w' ⟨rfl, hf, hT, hB⟩
  have hpb := hG.old j p hp
  refine ⟨p, hp, rfl, hf.below N (by omega) (fun k h => by rcases h with h | h <;> omega), hd.fr hf ?_, ⟨⟨?_, ?_⟩, hL.ms.fr hf (by omega), hL.mu.fr hf (by omega), hL.mp.fr hf (by omega)⟩⟩
  · rintro (h | h)
    · exact hdN h.symm
    · exact hdn j p hp h.symm
  · rw [tab_upd j p hp]; exact hT
  · intro i hi r hr
    by_cases e : i = j
    · subst e; rw [upd_same] at hr; cases hr; exact hB
    · rw [upd_other _ _ _ _ e] at hr
      have hrb := hG.old i r hr
      refine (hL.tab.key i hi r hr).fr hf ?_
      rintro (h | h)
      · omega
      · exact e (hG.inj i j r p hr hp h)

theorem keepB_new (hL : Lay2 w0 N K S U R clk) (hG : Good3 N K S U R clk) (hc : clk ≤ 2000) (hs0 : 0 ≤ s) (hs1 : s < 24) (hno : ∀ i, i < 16 → ¬ S i = s)
    (d : KK) (hd : Blk w0 d.b 62 d.cells) (hsc : d.s0 = secB ∧ d.s1 = dateB ∧ d.s2 = regB ∧ d.s3 = svcB s) (hdn : ∀ i q, K i = some q → q.b ≠ d.b) (hdN : N + 1 + 1 + 1 < d.b) :
    Calls Yba.prog 13 #[.pointer (some ⟨N, 0, none⟩), .pointer (some ⟨d.b, 0, none⟩)] w0 fun x w' =>
      x = .returned (.pointer (some ⟨d.b, 0, none⟩)) ∧ Below N w0 w' ∧ ∃ k, Slot K k ∧ Lay2 w' N (upd K k (some { d with u := clk + 1 })) S U R (clk + 1) := by
  have hlt := hL.tab.tab.lt
  obtain ⟨g0, g1, g2, g3⟩ := hsc
  refine (keep_new N K clk d w0 hL.tab hd hG.clk0 (by omega) (fun i q hq => by have := hG.rng i q hq; omega) (fun i hi k hk => by rw [g0, g1, g2, g3]; exact hG.no hs0 hs1 i (hno i hi) k hk)).mono ?_
  rintro x w' ⟨rfl, hf, k, hk, hT, hB⟩
  refine ⟨rfl, hf.below N (by omega) (fun k h => by rcases h with h | h <;> omega), k, hk, ⟨⟨hT, ?_⟩, hL.ms.fr hf (by omega), hL.mu.fr hf (by omega), hL.mp.fr hf (by omega)⟩⟩
  intro i hi r hr
  by_cases e : i = k
  · subst e; rw [upd_same] at hr; cases hr; exact hB
  · rw [upd_other _ _ _ _ e] at hr
    have hrb := hG.old i r hr
    refine (hL.tab.key i hi r hr).fr hf ?_
    rintro (h | h)
    · omega
    · exact hdn i r hr h
end
end Go.Proofs.Ybulkczsa
