/-
  The walk of LawS5057CFind over seat b5057a's program.
-/
import Derived.Test.YbulkczsaFind
import Derived.Deep.RegionWith
import Derived.Deep.DeepCutAuto
import Derived.Deep.CutBlock
import Derived.WalkSmall
namespace Go.Proofs.Ybulkczsa
open Go.RowKit

def rowV (n : Nat) (f : Nat → Value) : Array Value := ((List.range n).map f).toArray

theorem rowV_get (n : Nat) (f : Nat → Value) (i : Nat) (h : i < n) : (rowV n f)[i]? = some (f i) := by
  unfold rowV; simp [h]

/-- f with another value at k -/
def upd {α : Type} (f : Nat → α) (k : Nat) (v : α) : Nat → α := fun i => if i = k then v else f i
theorem upd_same {α : Type} (f : Nat → α) (k : Nat) (v : α) : upd f k v k = v := by simp [upd]
theorem upd_other {α : Type} (f : Nat → α) (k i : Nat) (v : α) (h : i ≠ k) : upd f k v i = f i := by simp [upd, h]

theorem rowV_set (n : Nat) (f : Nat → Value) (k : Nat) (v : Value) : (rowV n f).setIfInBounds k v = rowV n (upd f k v) := by
  apply Array.ext_getElem?
  intro i
  rw [Array.getElem?_setIfInBounds]
  unfold rowV upd
  by_cases h : k = i
  · subst h; by_cases hk : k < n <;> simp [hk]
  · simp only [h, if_false]
    by_cases hi : i < n
    · simp [hi]; intro e; exact absurd e.symm h
    · simp [hi]

/-- the cells of a new keyTable -/
def tab0 : Array Value := tabCells (fun _ => none) 0 0

/-- the memory of the law: the table, and the three arrays beside it -/
structure Lay (wr : World) (N : Nat) (K : Nat → Option KK) (P U : Nat → Int) (clk : Int) : Prop where
  tab : Tab wr N K clk 0
  kept : Blk wr (N + 1) 50 (rowV 16 fun i => ptrV (K i))
  picks : Blk wr (N + 1 + 1) 48 (rowV 16 fun i => .int .i64 (P i))
  bef : Blk wr (N + 1 + 1 + 1) 49 (rowV 16 fun i => .int .u64 (U i))

theorem Lay.alloc {wr : World} {N : Nat} {K : Nat → Option KK} {P U : Nat → Int} {clk : Int} (h : Lay wr N K P U clk) (o : Obj) : Lay (wr.alloc o) N K P U clk :=
  ⟨⟨h.tab.tab.alloc o, fun i hi k hk => (h.tab.key i hi k hk).alloc o⟩, h.kept.alloc o, h.picks.alloc o, h.bef.alloc o⟩

theorem lay0 (w W1 : World) (clk : Int) (hb1 : Blk W1 w.heap.size 47 (tabCells (fun _ => none) clk 0)) (hf1 : Below w.heap.size w W1) (hz1 : W1.heap.size = w.heap.size + 1) :
    Below w.heap.size w (((W1.alloc (.cells (rowV 16 fun _ => .pointer none) 50)).alloc (.cells (rowV 16 fun _ => .int .i64 0) 48)).alloc (.cells (rowV 16 fun _ => .int .u64 0) 49)) ∧
    Lay (((W1.alloc (.cells (rowV 16 fun _ => .pointer none) 50)).alloc (.cells (rowV 16 fun _ => .int .i64 0) 48)).alloc (.cells (rowV 16 fun _ => .int .u64 0) 49)) w.heap.size (fun _ => none) (fun _ => 0) (fun _ => 0) clk := by
  refine ⟨((hf1.alloc (by omega) _).alloc (by simp; omega) _).alloc (by simp; omega) _, ⟨⟨((hb1.alloc _).alloc _).alloc _, fun i _ k h => by cases h⟩, ?_, ?_, ?_⟩⟩
  · have := ((Blk.new W1 50 (rowV 16 fun _ => .pointer none)).alloc (.cells (rowV 16 fun _ => .int .i64 0) 48)).alloc (.cells (rowV 16 fun _ => .int .u64 0) 49)
    rw [hz1] at this; exact this
  · have := (Blk.new (W1.alloc (.cells (rowV 16 fun _ => .pointer none) 50)) 48 (rowV 16 fun _ => .int .i64 0)).alloc (.cells (rowV 16 fun _ => .int .u64 0) 49)
    rw [World.size_alloc, hz1] at this; exact this
  · have := Blk.new ((W1.alloc (.cells (rowV 16 fun _ => .pointer none) 50)).alloc (.cells (rowV 16 fun _ => .int .i64 0) 48)) 49 (rowV 16 fun _ => .int .u64 0)
    rw [World.size_alloc, World.size_alloc, hz1] at this; exact this

/-- what is known of the kept keys beside the memory -/
structure Good (N : Nat) (K : Nat → Option KK) (P U : Nat → Int) : Prop where
  old : ∀ i q, K i = some q → N + 1 + 1 + 1 < q.b
  used : ∀ i q, K i = some q → q.u = U i
  sc : ∀ i q, K i = some q → q.s0 = secC (P i) ∧ q.s1 = dateC (P i) ∧ q.s2 = regC (P i) ∧ q.s3 = svcC (P i)
  rng : ∀ i, 0 ≤ P i ∧ P i < 5
  inj : ∀ i j q r, K i = some q → K j = some r → q.b = r.b → i = j

theorem Lay.drew {wr : World} {N : Nat} {K : Nat → Option KK} {P U : Nat → Int} {clk : Int} (h : Lay wr N K P U clk) : Lay wr.drew N K P U clk :=
  ⟨⟨h.tab.tab, h.tab.key⟩, h.kept, h.picks, h.bef⟩

theorem Lay.drewN {wr : World} {N : Nat} {K : Nat → Option KK} {P U : Nat → Int} {clk : Int} (h : Lay wr N K P U clk) (n : Nat) : Lay (wr.drewN n) N K P U clk :=
  ⟨⟨h.tab.tab, h.tab.key⟩, h.kept, h.picks, h.bef⟩

theorem mid_world {w wr : World} {K : Nat → Option KK} {P U : Nat → Int} {clk : Int} (hf : Below w.heap.size w wr) (hL : Lay wr w.heap.size K P U clk) (a c : Array Value) (o2 o3 : Obj) :
    ((((wr.alloc (.cells a 72)).alloc o2).alloc o3).alloc (.cells c 62)).heap.size = wr.heap.size + 1 + 1 + 1 + 1 ∧
    Below w.heap.size w ((((wr.alloc (.cells a 72)).alloc o2).alloc o3).alloc (.cells c 62)) ∧
    Lay ((((wr.alloc (.cells a 72)).alloc o2).alloc o3).alloc (.cells c 62)) w.heap.size K P U clk ∧
    Blk ((((wr.alloc (.cells a 72)).alloc o2).alloc o3).alloc (.cells c 62)) wr.heap.size 72 a ∧
    Blk ((((wr.alloc (.cells a 72)).alloc o2).alloc o3).alloc (.cells c 62)) (wr.heap.size + 1 + 1 + 1) 62 c := by
  have hs := hf.size
  refine ⟨by simp, (((hf.alloc (by omega) _).alloc (by simp; omega) _).alloc (by simp; omega) _).alloc (by simp; omega) _, (((hL.alloc _).alloc _).alloc _).alloc _, (((Blk.new wr 72 a).alloc _).alloc _).alloc _, ?_⟩
  have := Blk.new (((wr.alloc (.cells a 72)).alloc o2).alloc o3) 62 c
  rw [World.size_alloc, World.size_alloc, World.size_alloc] at this
  exact this

theorem tab_set (K : Nat → Option KK) (clk st : Int) (k : Nat) (v : Option KK) (h : k < 16) : (tabCells K clk st).setIfInBounds k (ptrV v) = tabCells (upd K k v) clk st := by
  apply Array.ext_getElem?
  intro i
  rw [Array.getElem?_setIfInBounds]
  unfold tabCells upd
  by_cases e : k = i
  · subst e; simp [List.getElem?_append, h]; omega
  · simp only [e, if_false]
    by_cases hi : i < 16
    · simp [List.getElem?_append, hi]; rw [if_neg (fun g => e g.symm)]
    · simp [List.getElem?_append, hi]

theorem row_ptr (K : Nat → Option KK) (k : Nat) (v : Option KK) : rowV 16 (upd (fun i => ptrV (K i)) k (ptrV v)) = rowV 16 (fun i => ptrV (upd K k v i)) := by
  congr 1; funext i; unfold upd; split <;> rfl
theorem row_i64 (P : Nat → Int) (k : Nat) (v : Int) : rowV 16 (upd (fun i => .int .i64 (P i)) k (.int .i64 v)) = rowV 16 (fun i => .int .i64 (upd P k v i)) := by
  congr 1; funext i; unfold upd; split <;> rfl
theorem row_u64 (P : Nat → Int) (k : Nat) (v : Int) : rowV 16 (upd (fun i => .int .u64 (P i)) k (.int .u64 v)) = rowV 16 (fun i => .int .u64 (upd P k v i)) := by
  congr 1; funext i; unfold upd; split <;> rfl

theorem Lay.step {wc : World} {N : Nat} {K : Nat → Option KK} {P U : Nat → Int} {clk : Int} (h : Lay wc N K P U clk) (hold : ∀ i q, K i = some q → N + 1 + 1 + 1 < q.b)
    (k : Nat) (hk : k < 16) (kk : KK) (hnew : Blk wc kk.b 62 kk.cells) (hb : N + 1 + 1 + 1 < kk.b) (p u : Int) :
    Lay ((((wc.setCell ⟨N + 1, k, none⟩ (ptrV (some kk))).setCell ⟨N + 1 + 1, k, none⟩ (.int .i64 p)).setCell ⟨N + 1 + 1 + 1, k, none⟩ (.int .u64 u)).setCell ⟨N, k, none⟩ (ptrV (some kk)))
      N (upd K k (some kk)) (upd P k p) (upd U k u) clk := by
  refine ⟨⟨?_, ?_⟩, ?_, ?_, ?_⟩
  · have := ((((h.tab.tab.other (N + 1) k (ptrV (some kk)) (by omega)).other (N + 1 + 1) k (.int .i64 p) (by omega)).other (N + 1 + 1 + 1) k (.int .u64 u) (by omega)).same k (ptrV (some kk)))
    rw [tab_set _ _ _ _ _ hk] at this; exact this
  · intro i hi q hq
    have hqb : N + 1 + 1 + 1 < q.b ∧ Blk wc q.b 62 q.cells := by
      by_cases e : i = k
      · subst e; rw [upd_same] at hq; cases hq; exact ⟨hb, hnew⟩
      · rw [upd_other _ _ _ _ e] at hq; exact ⟨hold i q hq, h.tab.key i hi q hq⟩
    exact (((hqb.2.other _ _ _ (by omega)).other _ _ _ (by omega)).other _ _ _ (by omega)).other _ _ _ (by omega)
  · have := (((h.kept.same k (ptrV (some kk))).other (N + 1 + 1) k (.int .i64 p) (by omega)).other (N + 1 + 1 + 1) k (.int .u64 u) (by omega)).other N k (ptrV (some kk)) (by omega)
    rw [rowV_set, row_ptr] at this; exact this
  · have := (((h.picks.other (N + 1) k (ptrV (some kk)) (by omega)).same k (.int .i64 p)).other (N + 1 + 1 + 1) k (.int .u64 u) (by omega)).other N k (ptrV (some kk)) (by omega)
    rw [rowV_set, row_i64] at this; exact this
  · have := (((h.bef.other (N + 1) k (ptrV (some kk)) (by omega)).other (N + 1 + 1) k (.int .i64 p) (by omega)).same k (.int .u64 u)).other N k (ptrV (some kk)) (by omega)
    rw [rowV_set, row_u64] at this; exact this

theorem Good.step {N : Nat} {K : Nat → Option KK} {P U : Nat → Int} (h : Good N K P U) (k : Nat) (kk : KK) (p : Int) (hb : N + 1 + 1 + 1 < kk.b) (hlt : ∀ i q, K i = some q → q.b < kk.b)
    (hp : 0 ≤ p ∧ p < 5) (hs : kk.s0 = secC p ∧ kk.s1 = dateC p ∧ kk.s2 = regC p ∧ kk.s3 = svcC p) : Good N (upd K k (some kk)) (upd P k p) (upd U k kk.u) := by
  refine ⟨?_, ?_, ?_, ?_, ?_⟩
  · intro i q hq
    by_cases e : i = k
    · subst e; rw [upd_same] at hq; cases hq; exact hb
    · rw [upd_other _ _ _ _ e] at hq; exact h.old i q hq
  · intro i q hq
    by_cases e : i = k
    · subst e; rw [upd_same] at hq ⊢; cases hq; rfl
    · rw [upd_other _ _ _ _ e] at hq ⊢; exact h.used i q hq
  · intro i q hq
    by_cases e : i = k
    · subst e; rw [upd_same] at hq ⊢; cases hq; exact hs
    · rw [upd_other _ _ _ _ e] at hq ⊢; exact h.sc i q hq
  · intro i
    by_cases e : i = k
    · subst e; rw [upd_same]; exact hp
    · rw [upd_other _ _ _ _ e]; exact h.rng i
  · intro i j q r hq hr hqr
    by_cases e : i = k
    · by_cases f : j = k
      · omega
      · subst e; rw [upd_same] at hq; rw [upd_other _ _ _ _ f] at hr; cases hq
        have := hlt j r hr; omega
    · by_cases f : j = k
      · subst f; rw [upd_same] at hr; rw [upd_other _ _ _ _ e] at hq; cases hr
        have := hlt i q hq; omega
      · rw [upd_other _ _ _ _ e] at hq; rw [upd_other _ _ _ _ f] at hr
        exact h.inj i j q r hq hr hqr

/-- slot i holds a key of pick q -/
def Mt (K : Nat → Option KK) (P : Nat → Int) (q : Int) (i : Nat) : Prop := (∃ r, K i = some r) ∧ P i = q

theorem Mt.not_none {K : Nat → Option KK} {P : Nat → Int} {q : Int} {i : Nat} (h : K i = none) : ¬ Mt K P q i := by
  rintro ⟨⟨r, hr⟩, _⟩; rw [h] at hr; cases hr

theorem scopeC_inj (p q : Int) (hp : 0 ≤ p ∧ p < 5) (hq : 0 ≤ q ∧ q < 5) (h : secC p = secC q ∧ dateC p = dateC q ∧ regC p = regC q ∧ svcC p = svcC q) : p = q := by
  have h1 : p = 0 ∨ p = 1 ∨ p = 2 ∨ p = 3 ∨ p = 4 := by omega
  have h2 : q = 0 ∨ q = 1 ∨ q = 2 ∨ q = 3 ∨ q = 4 := by omega
  rcases h1 with rfl | rfl | rfl | rfl | rfl <;> rcases h2 with rfl | rfl | rfl | rfl | rfl <;> first | rfl | (exfalso; revert h; decide)

/-- what is known of the kept keys behind the look-up -/
structure Good2 (N : Nat) (K : Nat → Option KK) (P U : Nat → Int) (e clk : Int) : Prop where
  old : ∀ i q, K i = some q → N + 1 + 1 + 1 < q.b
  used : ∀ i : Nat, ∀ q, K i = some q → q.u = if (i : Int) = e then clk else U i
  sc : ∀ i q, K i = some q → q.s0 = secC (P i) ∧ q.s1 = dateC (P i) ∧ q.s2 = regC (P i) ∧ q.s3 = svcC (P i)
  rng : ∀ i, 0 ≤ P i ∧ P i < 5

/-- the first slot that holds a key of pick q, or -1 -/
def Exp (K : Nat → Option KK) (P : Nat → Int) (q e : Int) : Prop :=
  (e = -1 ∧ ∀ i, i < 16 → ¬ Mt K P q i) ∨ ∃ j : Nat, j < 16 ∧ e = (j : Int) ∧ Mt K P q j ∧ ∀ i, i < j → ¬ Mt K P q i

theorem ptr_upd (K : Nat → Option KK) (j : Nat) (p : KK) (u : Int) (hp : K j = some p) (i : Nat) : ptrV (upd K j (some { p with u := u }) i) = ptrV (K i) := by
  by_cases e : i = j
  · subst e; rw [upd_same, hp]; rfl
  · rw [upd_other _ _ _ _ e]

theorem find_exp {w0 : World} {N : Nat} {K : Nat → Option KK} {P U : Nat → Int} {clk q e : Int} (hL : Lay w0 N K P U clk) (hG : Good N K P U) (hq : 0 ≤ q ∧ q < 5) (hE : Exp K P q e) :
    Calls Yba.prog 12 #[.pointer (some ⟨N, 0, none⟩), .agg #[.string (secC q), .string (dateC q), .string (regC q), .string (svcC q)]] w0 fun x w' =>
      ∃ g K', x = .returned g ∧ Below N w0 w' ∧ Lay w' N K' P U clk ∧ Good2 N K' P U e clk ∧
        ((e = -1 ∧ g = .pointer none) ∨ ∃ (j : Nat) (p : KK), j < 16 ∧ e = (j : Int) ∧ K' j = some p ∧ g = .pointer (some ⟨p.b, 0, none⟩)) := by
  have hlt := hL.tab.tab.lt
  have hnm : ∀ i, ¬ Mt K P q i → ∀ k, K i = some k → ¬ (k.s0 = secC q ∧ k.s1 = dateC q ∧ k.s2 = regC q ∧ k.s3 = svcC q) := by
    intro i hm k hk hs
    refine hm ⟨⟨k, hk⟩, scopeC_inj _ _ (hG.rng i) hq ?_⟩
    obtain ⟨h0, h1, h2, h3⟩ := hG.sc i k hk
    rw [← h0, ← h1, ← h2, ← h3]; exact hs
  rcases hE with ⟨rfl, hno⟩ | ⟨j, hj, rfl, ⟨⟨p, hp⟩, hPj⟩, hno⟩
  · refine (find_miss N K clk 0 _ _ _ _ w0 hL.tab (fun i hi k hk => hnm i (hno i hi) k hk)).mono ?_
    rintro x w' ⟨rfl, hf⟩
    refine ⟨_, K, rfl, hf.below N (by omega) (fun _ h => h.elim), ⟨hL.tab.fr hf (fun _ _ h => h), hL.kept.fr hf (fun h => h), hL.picks.fr hf (fun h => h), hL.bef.fr hf (fun h => h)⟩, ⟨hG.old, ?_, hG.sc, hG.rng⟩, .inl ⟨rfl, rfl⟩⟩
    intro i r hr
    rw [if_neg (by omega)]; exact hG.used i r hr
  · have hs : p.s0 = secC q ∧ p.s1 = dateC q ∧ p.s2 = regC q ∧ p.s3 = svcC q := by
      have := hG.sc j p hp; rw [hPj] at this; exact this
    refine (find_hit N K clk 0 _ _ _ _ w0 hL.tab j p hj hp hs (fun i hi k hk => hnm i (hno i hi) k hk)).mono ?_
    rintro x w' ⟨rfl, hf, hB⟩
    have hpb := hG.old j p hp
    refine ⟨_, upd K j (some { p with u := clk }), rfl, hf.below N (by omega) (fun k h => by omega), ⟨⟨?_, ?_⟩, ?_, ?_, ?_⟩, ⟨?_, ?_, ?_, hG.rng⟩, .inr ⟨j, { p with u := clk }, hj, rfl, upd_same _ _ _, rfl⟩⟩
    · have := hL.tab.tab.fr hf (by omega)
      have he : tabCells (upd K j (some { p with u := clk })) clk 0 = tabCells K clk 0 := by
        unfold tabCells; simp only [ptr_upd K j p clk hp]
      rw [he]; exact this
    · intro i hi r hr
      by_cases e : i = j
      · subst e; rw [upd_same] at hr; cases hr; exact hB
      · rw [upd_other _ _ _ _ e] at hr
        exact (hL.tab.key i hi r hr).fr hf (fun h => e (hG.inj i j r p hr hp h))
    · simp only [ptr_upd K j p clk hp]; exact hL.kept.fr hf (by omega)
    · exact hL.picks.fr hf (by omega)
    · exact hL.bef.fr hf (by omega)
    · intro i r hr
      by_cases e : i = j
      · subst e; rw [upd_same] at hr; cases hr; exact hpb
      · rw [upd_other _ _ _ _ e] at hr; exact hG.old i r hr
    · intro i r hr
      by_cases e : i = j
      · subst e; rw [upd_same] at hr; cases hr; rw [if_pos rfl]
      · rw [upd_other _ _ _ _ e] at hr; rw [if_neg (by omega)]; exact hG.used i r hr
    · intro i r hr
      by_cases e : i = j
      · subst e; rw [upd_same] at hr; cases hr; exact hG.sc i p hp
      · rw [upd_other _ _ _ _ e] at hr; exact hG.sc i r hr

theorem good0 (N : Nat) : Good N (fun _ => none) (fun _ => 0) (fun _ => 0) := by
  refine ⟨?_, ?_, ?_, ?_, ?_⟩
  · intro _ _ h; cases h
  · intro _ _ h; cases h
  · intro _ _ h; cases h
  · intro _; omega
  · intro _ _ _ _ h; cases h

set_option maxRecDepth 100000 in
set_option maxHeartbeats 2000000 in
theorem cfind_walk (a : Option Addr) (len cap : Nat) (clk pick : Int) (w : World) (b off : Nat) (PR : Nat → Bool) (PK US : Nat → Int)
    (hidx : ∀ k : Nat, k < len → ∀ w', (Instr.indexAt 69 (.slice a len cap) (.int .i64 (k : Int))).run Yba.prog w' = .ok (.pointer (some ⟨b, off + k * 3, none⟩)) w')
    (hsl : ∀ k : Nat, k < len → b < w.heap.size ∧ w.cell? ⟨b, off + k * 3, none⟩ = some (.bool (PR k)) ∧ w.cell? ⟨b, off + k * 3 + 1, none⟩ = some (.int .u8 (PK k)) ∧
      w.cell? ⟨b, off + k * 3 + 2, none⟩ = some (.int .u64 (US k)) ∧ 0 ≤ PK k ∧ PK k ≤ 255)
    (hpk0 : 0 ≤ pick) (hpk1 : pick ≤ 255) :
    Calls Yba.prog 7 #[.slice a len cap, .int .u64 clk, .int .u8 pick] w fun e w' => e = .returned (.bool true) ∧ Below w.heap.size w w' := by
  have hb0 : Blk (w.alloc (.cells tab0 47)) w.heap.size 47 tab0 := Blk.new w 47 tab0
  go_enter Yba.func7, Yba.ntmps7
  go_wp2_with fail
  refine (u64Store_any _ _ clk (.int .u64 0) _ (by exact hb0.cell 16) (by exact hb0.frozen 16)).mono ?_
  rintro e W1 ⟨rfl, hW1⟩
  have hb1 : Blk W1 w.heap.size 47 (tabCells (fun _ => none) clk 0) := by rw [hW1]; exact hb0.same 16 (.int .u64 clk)
  have hf1 : Below w.heap.size w W1 := by rw [hW1]; exact ((Below.refl _ _).alloc (Nat.le_refl _) _).setCell (Nat.le_refl _) _
  have hz1 : W1.heap.size = w.heap.size + 1 := by rw [hW1]; simp
  clear hb0 hW1
  go_upto_if 28 with fail
  go_cut [11] (fun n wx => ∃ m : Nat, n = .int .i64 m ∧ m ≤ len ∧ m ≤ 16 ∧ Below w.heap.size w wx ∧ Lay wx w.heap.size (fun _ => none) (fun _ => 0) (fun _ => 0) clk)
  case first =>
    have hl0 := lay0 w W1 clk hb1 hf1 hz1
    go_wp2_with fail
    · go_meet
      case rel => exact ⟨16, rfl, by omega, by omega, hl0.1, hl0.2⟩
    · go_meet
      case rel => exact ⟨len, rfl, by omega, by omega, hl0.1, hl0.2⟩
  case rest =>
    obtain ⟨n, rfl, hn1, hn2, hf, hL⟩ := hcut
    clear hb1 hf1 hz1
    go_wp2_with fail
    go_loopw [12] (fun i wr => ∃ (k : Nat) (K : Nat → Option KK) (P U : Nat → Int), i = .int .i64 k ∧ k ≤ n ∧ Below w.heap.size w wr ∧ Lay wr w.heap.size K P U clk ∧ Good w.heap.size K P U ∧ ∀ j, k ≤ j → K j = none) (fun i _ => n - (intOf i).toNat)
    case atStart => exact ⟨0, _, _, _, rfl, by omega, hf, hL, good0 _, fun _ _ => rfl⟩
    case round =>
      obtain ⟨k, K, P, U, rfl, hk, hfr, hLr, hG, hnone⟩ := hrel
      clear hf hL
      by_cases hlt : k < n
      · have hlen : k < len := by omega
        obtain ⟨hbl, hc0, hc1, hc2, hp0, hp1⟩ := hsl k hlen
        have hix := hidx k hlen
        have d0 : wr.cell? ⟨b, off + k * 3, none⟩ = some (.bool (PR k)) := by rw [hfr.cell hbl]; exact hc0
        have d1 : wr.cell? ⟨b, off + k * 3 + 1, none⟩ = some (.int .u8 (PK k)) := by rw [hfr.cell hbl]; exact hc1
        have d2 : wr.cell? ⟨b, off + k * 3 + 2, none⟩ = some (.int .u64 (US k)) := by rw [hfr.cell hbl]; exact hc2
        clear hc0 hc1 hc2
        cases hpr : PR k with
        | false =>
          rw [hpr] at d0
          clear hidx hsl
          go_wp2_with fail
          go_roundw
          case rel => exact ⟨k + 1, K, P, U, by go_num, by omega, hfr.alloc hfr.size _, hLr.alloc _, hG, fun j hj => hnone j (by omega)⟩
          case measure => simp [intOf]; omega
        | true =>
          rw [hpr] at d0
          clear hidx hsl
          go_wp2_with fail
          refine (scopeC_lit _ _).mono ?_
          rintro e w2 ⟨rfl, rfl⟩
          go_wp2_with fail
          go_cut [15] (fun p wx => p = .pointer (some ⟨wr.heap.size + 1 + 1 + 1, 0, none⟩) ∧ wx.heap.size = wr.heap.size + 1 + 1 + 1 + 1 ∧ Below w.heap.size w wx ∧ Lay wx w.heap.size K P U clk ∧
            Blk wx wr.heap.size 72 #[.bool true, .int .u8 (PK k), .int .u64 (US k)] ∧
            Blk wx (wr.heap.size + 1 + 1 + 1) 62 (KK.cells ⟨wr.heap.size + 1 + 1 + 1, secC (PK k % 5), dateC (PK k % 5), regC (PK k % 5), svcC (PK k % 5), .slice (some ⟨wr.heap.size + 1 + 1, 0, none⟩) 1 1, US k⟩))
          case first =>
            go_region_with (go_at_call 16; refine (u64Store_any _ _ _ (.int .u64 0) _ (by simp [World.cell?_alloc_at]) (by simp [World.frozen?_alloc_at])).mono ?_; rintro e w' ⟨rfl, rfl⟩)
            have hm := mid_world hfr hLr
            all_goals (go_wp2_with fail; go_meet; case rel => exact ⟨rfl, by simp, (hm _ _ _ _).2.1.drew, (hm _ _ _ _).2.2.1.drew, (hm _ _ _ _).2.2.2.1.drew, (hm _ _ _ _).2.2.2.2.drew⟩)
          case rest =>
            obtain ⟨rfl, hz, hfc, hLc, hB72, hB62⟩ := hcut
            have hM := hLr.bef.lt
            have hold := hG.old
            have hk16 : k < 16 := by omega
            have ck : wc.cell? ⟨w.heap.size + 1, k, none⟩ = some (ptrV (K k)) := by rw [hLc.kept.cell, rowV_get _ _ _ hk16]
            have zk := hLc.kept.frozen k
            have cp : wc.cell? ⟨w.heap.size + 1 + 1, k, none⟩ = some (.int .i64 (P k)) := by rw [hLc.picks.cell, rowV_get _ _ _ hk16]
            have zp := hLc.picks.frozen k
            have cb : wc.cell? ⟨w.heap.size + 1 + 1 + 1, k, none⟩ = some (.int .u64 (U k)) := by rw [hLc.bef.cell, rowV_get _ _ _ hk16]
            have zb := hLc.bef.frozen k
            have cs : wc.cell? ⟨wr.heap.size, 2, none⟩ = some (.int .u64 (US k)) := hB72.cell 2
            have hbl' : ∀ i q, K i = some q → q.b < wr.heap.size := fun i q hq => by
              by_cases hi : i < 16
              · exact (hLr.tab.key i hi q hq).lt
              · rw [hnone i (by omega)] at hq; cases hq
            go_wp2_with fail
            refine (ptrStore_any _ _ _ (ptrV (K k)) (.string (secC (PK k % 5))) _ ?_ ?_ ?_).mono ?_
            · rw [(((hLc.tab.tab.other _ _ _ (by omega)).other _ _ _ (by omega)).other _ _ _ (by omega)).cell, tab_slot _ _ _ _ hk16]
            · exact (((hLc.tab.tab.other _ _ _ (by omega)).other _ _ _ (by omega)).other _ _ _ (by omega)).frozen _
            · exact (((hB62.other _ _ _ (by omega)).other _ _ _ (by omega)).other _ _ _ (by omega)).cell 0
            rintro e w3 ⟨rfl, hw3⟩
            have hL3 := hLc.step hold k hk16 ⟨wr.heap.size + 1 + 1 + 1, secC (PK k % 5), dateC (PK k % 5), regC (PK k % 5), svcC (PK k % 5), .slice (some ⟨wr.heap.size + 1 + 1, 0, none⟩) 1 1, US k⟩ hB62 (by show _ < wr.heap.size + 1 + 1 + 1; omega) (PK k % 5) (US k)
            have hG3 := hG.step k ⟨wr.heap.size + 1 + 1 + 1, secC (PK k % 5), dateC (PK k % 5), regC (PK k % 5), svcC (PK k % 5), .slice (some ⟨wr.heap.size + 1 + 1, 0, none⟩) 1 1, US k⟩ (PK k % 5) (by show _ < wr.heap.size + 1 + 1 + 1; omega) (fun i q hq => by have := hbl' i q hq; show _ < wr.heap.size + 1 + 1 + 1; omega) (by omega) ⟨rfl, rfl, rfl, rfl⟩
            have hf3 : Below w.heap.size w w3 := by
              rw [hw3]
              exact (((hfc.setCell (by show _ ≤ w.heap.size + 1; omega) _).setCell (by show _ ≤ w.heap.size + 1 + 1; omega) _).setCell (by show _ ≤ w.heap.size + 1 + 1 + 1; omega) _).setCell (Nat.le_refl _) _
            change Lay ((((wc.setCell ⟨w.heap.size + 1, k, none⟩ (.pointer (some ⟨wr.heap.size + 1 + 1 + 1, 0, none⟩))).setCell ⟨w.heap.size + 1 + 1, k, none⟩ (.int .i64 (PK k % 5))).setCell ⟨w.heap.size + 1 + 1 + 1, k, none⟩ (.int .u64 (US k))).setCell ⟨w.heap.size, k, none⟩ (.pointer (some ⟨wr.heap.size + 1 + 1 + 1, 0, none⟩))) _ _ _ _ _ at hL3
            rw [← hw3] at hL3
            clear hw3 hLc hB72 hB62 ck zk cp zp cb zb cs hfc
            have HL : Hid (Lay w3 w.heap.size _ _ _ clk) := hL3
            have HG : Hid (Good w.heap.size _ _ _) := hG3
            clear hL3 hG3
            go_wp2_with fail
            go_roundw
            case rel =>
              refine ⟨k + 1, _, _, _, by go_num, by omega, hf3, HL.out, HG.out, fun j hj => ?_⟩
              rw [upd_other _ _ _ _ (by omega)]; exact hnone j (by omega)
            case measure => simp [intOf]; omega
      · clear hidx hsl
        go_upto_block 2 with fail
        go_cut [17] (fun e wx => wx = wr ∧ ∃ x : Int, e = .int .i64 x ∧ Exp K P (pick % 5) x)
        case first =>
          go_wp2_with fail
          go_loop [17, 18] (fun e i => e = .int .i64 (-1) ∧ ∃ m : Nat, m ≤ 16 ∧ i = .int .i64 m ∧ ∀ i, i < m → ¬ Mt K P (pick % 5) i) (fun _ i => 16 - (intOf i).toNat)
          case atStart => exact ⟨rfl, 0, by omega, rfl, fun i hi => by omega⟩
          case round =>
            obtain ⟨rfl, m, hm, rfl, hno⟩ := hrel
            by_cases hm16 : m < 16
            · have ck : wr.cell? ⟨w.heap.size + 1, m, none⟩ = some (ptrV (K m)) := by rw [hLr.kept.cell, rowV_get _ _ _ hm16]
              have cp : wr.cell? ⟨w.heap.size + 1 + 1, m, none⟩ = some (.int .i64 (P m)) := by rw [hLr.picks.cell, rowV_get _ _ _ hm16]
              cases hKm : K m with
              | none =>
                rw [hKm] at ck
                have ck' : wr.cell? ⟨w.heap.size + 1, m, none⟩ = some (.pointer none) := ck
                clear ck
                go_wp2_with fail
                go_round
                case rel => exact ⟨rfl, m + 1, by omega, by go_num, fun i hi => (by by_cases e : i = m; · subst e; exact Mt.not_none hKm
                                                                                    · exact hno i (by omega))⟩
                case measure => simp [intOf]; omega
              | some r =>
                rw [hKm] at ck
                have ck' : wr.cell? ⟨w.heap.size + 1, m, none⟩ = some (.pointer (some ⟨r.b, 0, none⟩)) := ck
                clear ck
                by_cases hP : P m = pick % 5
                · have hP' : (P m == pick % 5) = true := by simp [hP]
                  have HP : Hid (P m = pick % 5) := hP
                  clear hP
                  go_wp2_with fail
                  go_meet
                  case rel => exact ⟨rfl, m, rfl, .inr ⟨m, hm16, rfl, ⟨⟨r, hKm⟩, HP.out⟩, hno⟩⟩
                · have hP' : (P m == pick % 5) = false := by simp [hP]
                  have HP : Hid (¬ P m = pick % 5) := hP
                  clear hP
                  go_wp2_with fail
                  go_round
                  case rel => exact ⟨rfl, m + 1, by omega, by go_num, fun i hi => (by by_cases e : i = m; · subst e; exact fun h => HP.out h.2
                                                                                      · exact hno i (by omega))⟩
                  case measure => simp [intOf]; omega
            · go_wp2_with fail
              go_meet
              case rel => exact ⟨rfl, -1, rfl, .inl ⟨rfl, fun i hi => hno i (by omega)⟩⟩
        case rest =>
          obtain ⟨rfl, e, rfl, hE⟩ := hcut
          go_upto_region 28 with fail
          go_cut [19] (fun g wx => ∃ K', Below w.heap.size w wx ∧ Lay wx w.heap.size K' P U clk ∧ Good2 w.heap.size K' P U e clk ∧ ((e = -1 ∧ g = .pointer none) ∨ ∃ (j : Nat) (p : KK), j < 16 ∧ e = (j : Int) ∧ K' j = some p ∧ g = .pointer (some ⟨p.b, 0, none⟩)))
          case first =>
            go_wp2_with fail
            refine (scopeC_lit _ _).mono ?_
            rintro x w2 ⟨rfl, rfl⟩
            go_wp2_with fail
            refine (find_exp (hLr.alloc _) hG (by omega) hE).mono ?_
            rintro x w3 ⟨g, K', rfl, hf3, hL3, hG3, hg⟩
            have hs3 := hfr.size
            have hf4 := (hfr.alloc (by omega) _).trans hf3
            have HL : Hid (Lay w3 w.heap.size K' P U clk) := hL3
            have HG : Hid (Good2 w.heap.size K' P U e clk) := hG3
            have Hg : Hid ((e = -1 ∧ g = .pointer none) ∨ ∃ (j : Nat) (p : KK), j < 16 ∧ e = (j : Int) ∧ K' j = some p ∧ g = .pointer (some ⟨p.b, 0, none⟩)) := hg
            clear hL3 hG3 hg hf3 hE hs3
            go_wp2_with fail
            go_meet
            case rel => exact ⟨K', hf4, HL.out, HG.out, Hg.out⟩
          case rest =>
            clear hLr hG hfr hE hnone K
            obtain ⟨K, hfr, hLr, hG, hg⟩ := hcut
            go_upto_if 96 with fail
            go_cut [97] (fun _ wx => wx = wc)
            case first =>
              rcases hg with ⟨rfl, rfl⟩ | ⟨j, p, hj, rfl, hKj, rfl⟩
              · go_wp2_with fail
                go_meet
                case rel => rfl
              · have ck : wc.cell? ⟨w.heap.size + 1, j, none⟩ = some (ptrV (K j)) := by rw [hLr.kept.cell, rowV_get _ _ _ hj]
                rw [hKj] at ck
                have ck' : wc.cell? ⟨w.heap.size + 1, j, none⟩ = some (.pointer (some ⟨p.b, 0, none⟩)) := ck
                clear ck
                have hne := neq_same
                go_wp2_with fail
                go_meet
                case rel => rfl
            case rest =>
              obtain rfl := hcut
              clear hg
              have cclk := hLr.tab.clock
              go_wp2_with fail
              refine (u64Load_any _ _ clk _ cclk).mono ?_
              rintro x w2 ⟨rfl, rfl⟩
              clear cclk
              go_wp2_with fail
              go_loopw [20] (fun i wr => ∃ m : Nat, m ≤ 16 ∧ i = .int .i64 m ∧ Below w.heap.size w wr ∧ Lay wr w.heap.size K P U clk) (fun i _ => 16 - (intOf i).toNat)
              case atStart => exact ⟨0, by omega, rfl, hfr, hLr⟩
              case round =>
                clear hLr hfr
                obtain ⟨m, hm, rfl, hfr, hLr⟩ := hrel
                by_cases hm16 : m < 16
                · have ck : wr.cell? ⟨w.heap.size + 1, m, none⟩ = some (ptrV (K m)) := by rw [hLr.kept.cell, rowV_get _ _ _ hm16]
                  have cp : wr.cell? ⟨w.heap.size + 1 + 1, m, none⟩ = some (.int .i64 (P m)) := by rw [hLr.picks.cell, rowV_get _ _ _ hm16]
                  have cb : wr.cell? ⟨w.heap.size + 1 + 1 + 1, m, none⟩ = some (.int .u64 (U m)) := by rw [hLr.bef.cell, rowV_get _ _ _ hm16]
                  have ct := hLr.tab.slot m hm16
                  cases hKm : K m with
                  | none =>
                    rw [hKm] at ck ct
                    have ck' : wr.cell? ⟨w.heap.size + 1, m, none⟩ = some (.pointer none) := ck
                    have ct' : wr.cell? ⟨w.heap.size, m, none⟩ = some (.pointer none) := ct
                    clear ck ct
                    go_wp2_with fail
                    go_quiet ((go_at_call 15; exact Calls.quiet_of_same (ptrLoad_nil _ _ _ (by exact ct'))))
                    go_wp2_with fail
                    go_roundw
                    case rel => exact ⟨m + 1, by omega, by go_num, below_drewN hfr _, hLr.drewN _⟩
                    case measure => simp [intOf]; omega
                  | some r =>
                    rw [hKm] at ck ct
                    have ck' : wr.cell? ⟨w.heap.size + 1, m, none⟩ = some (.pointer (some ⟨r.b, 0, none⟩)) := ck
                    have ct' : wr.cell? ⟨w.heap.size, m, none⟩ = some (.pointer (some ⟨r.b, 0, none⟩)) := ct
                    clear ck ct
                    have hkb := hLr.tab.key m hm16 r hKm
                    have c0 : wr.cell? ⟨r.b, 0, none⟩ = some (.string r.s0) := hkb.cell 0
                    have c1 : wr.cell? ⟨r.b, 1, none⟩ = some (.string r.s1) := hkb.cell 1
                    have c2 : wr.cell? ⟨r.b, 2, none⟩ = some (.string r.s2) := hkb.cell 2
                    have c3 : wr.cell? ⟨r.b, 3, none⟩ = some (.string r.s3) := hkb.cell 3
                    have c10 : wr.cell? ⟨r.b, 10, none⟩ = some (.int .u64 r.u) := hkb.cell 10
                    have hu := hG.used m r hKm
                    have hdf : sameB r.s0 r.s1 r.s2 r.s3 (secC (P m)) (dateC (P m)) (regC (P m)) (svcC (P m)) = true := (sameB_iff ..).mpr (hG.sc m r hKm)
                    have hgd := guardScope
                    have heq := equalScope r.s0 r.s1 r.s2 r.s3 (secC (P m)) (dateC (P m)) (regC (P m)) (svcC (P m))
                    have hne := neq_same
                    have e0 : ∀ n o, ((wr.drewN n).alloc o).cell? ⟨r.b, 0, none⟩ = some (.string r.s0) := fun n o => (Blk.alloc (w := wr.drewN n) hkb o).cell 0
                    have e1 : ∀ n o, ((wr.drewN n).alloc o).cell? ⟨r.b, 1, none⟩ = some (.string r.s1) := fun n o => (Blk.alloc (w := wr.drewN n) hkb o).cell 1
                    have e2 : ∀ n o, ((wr.drewN n).alloc o).cell? ⟨r.b, 2, none⟩ = some (.string r.s2) := fun n o => (Blk.alloc (w := wr.drewN n) hkb o).cell 2
                    have e3 : ∀ n o, ((wr.drewN n).alloc o).cell? ⟨r.b, 3, none⟩ = some (.string r.s3) := fun n o => (Blk.alloc (w := wr.drewN n) hkb o).cell 3
                    have ek : ∀ n o, ((wr.drewN n).alloc o).cell? ⟨w.heap.size + 1, m, none⟩ = some (.pointer (some ⟨r.b, 0, none⟩)) := fun n o => by
                      rw [(Blk.alloc (w := wr.drewN n) hLr.kept o).cell, rowV_get _ _ _ hm16, hKm]; rfl
                    by_cases he : (m : Int) = e
                    · rw [if_pos he] at hu
                      have hu' : (r.u != clk) = false := by simp [hu]
                      have he' : ((m : Int) == e) = true := by simp [he]
                      clear hu he
                      go_wp2_with fail
                      go_quiet ((go_at_call 15; exact Calls.quiet_of_same (ptrLoad_some _ _ _ _ _ (by exact ct') (by exact hkb) rfl)))
                      go_wp2_with fail
                      refine (u64Load_any _ _ r.u _ (by exact c10)).mono ?_
                      rintro x w2 ⟨rfl, rfl⟩
                      go_wp2_with fail
                      go_region_with (go_at_call 17; refine (scopeC_lit _ _).mono ?_; rintro x w3 ⟨rfl, rfl⟩)
                      all_goals
                        go_wp2_with fail
                        go_roundw
                        case rel => exact ⟨m + 1, by omega, by go_num, (below_drewN hfr _).alloc hfr.size _, (hLr.drewN _).alloc _⟩
                        case measure => simp [intOf]; omega
                    · rw [if_neg he] at hu
                      have hu' : (r.u != U m) = false := by simp [hu]
                      have he' : ((m : Int) == e) = false := by simp [he]
                      clear hu he
                      go_wp2_with fail
                      go_quiet ((go_at_call 15; exact Calls.quiet_of_same (ptrLoad_some _ _ _ _ _ (by exact ct') (by exact hkb) rfl)))
                      go_wp2_with fail
                      refine (u64Load_any _ _ r.u _ (by exact c10)).mono ?_
                      rintro x w2 ⟨rfl, rfl⟩
                      go_wp2_with fail
                      go_region_with (go_at_call 17; refine (scopeC_lit _ _).mono ?_; rintro x w3 ⟨rfl, rfl⟩)
                      all_goals
                        go_wp2_with fail
                        go_roundw
                        case rel => exact ⟨m + 1, by omega, by go_num, (below_drewN hfr _).alloc hfr.size _, (hLr.drewN _).alloc _⟩
                        case measure => simp [intOf]; omega
                · go_wp2_with fail
                  go_ret
                  exact ⟨rfl, hfr⟩
end Go.Proofs.Ybulkczsa
