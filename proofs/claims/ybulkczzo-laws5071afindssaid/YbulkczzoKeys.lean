/-
  The keys of a treap of seat b5071a's law: cloned, sorted, compacted; and that they ascend.
-/
import Derived.Test.YbulkczzoShelf
import Derived.Test.YbulkczzoGrow
import Derived.Sort.OwnSortedInts
import Derived.Lib.OwnBridge
import Derived.OpenShut
namespace Go.Proofs.Ybulkczzo
open Go.RowKit Go.Sort

/-- v is a slice that the call owns, from block B on; it holds zs -/
def KRow (w : World) (B : Nat) (v : Value) (zs : List Int) : Prop := w.ownsRow B 2 1 v zs.length (zs.map (Value.int .i64))

theorem KRow.none (w : World) (B : Nat) : KRow w B (.slice Option.none 0 0) [] := World.ownsRow_nil w B 2 1

theorem KRow.form {w : World} {B : Nat} {v : Value} {zs : List Int} (h : KRow w B v zs) :
    (v = .slice Option.none 0 0 ∧ zs = []) ∨ ∃ g cap cur, v = .slice (some ⟨g, 0, Option.none⟩) zs.length cap ∧ B ≤ g ∧ g < w.heap.size ∧ w.heap[g]? = some (.cells cur 2 (0, 0)) ∧ zs.length ≤ cap ∧ cap ≤ maxLen ∧ cur.size = cap * 1 ∧ cur.toList.take (zs.length * 1) = zs.map (Value.int .i64) := by
  rcases h.2 with ⟨h1, h2⟩ | ⟨g, cap, cur, h1, h2, h3, h4, h5, h6, h7⟩
  · exact .inl ⟨h1, List.length_eq_zero_iff.1 h2⟩
  · exact .inr ⟨g, cap, cur, h1, h2, (Array.getElem?_eq_some_iff.1 h3).1, h3, h4, h5, h6, h7⟩

theorem KRow.keep {w w' : World} {B B' : Nat} {v : Value} {zs : List Int} (h : KRow w B v zs) (hb : Below B' w w') (hB : ∀ k, v.ownBlock = some k → k < B') : KRow w' B v zs := by
  refine ⟨h.1, ?_⟩
  rcases h.2 with h1 | ⟨g, cap, cur, h1, h2, h3, h4⟩
  · exact .inl h1
  · exact .inr ⟨g, cap, cur, h1, h2, by rw [hb.block g (hB g (by rw [h1]; rfl))]; exact h3, h4⟩

theorem info2 : ∃ i, Yba.prog.info? 2 = some i ∧ i.zero = some (.int .i64 0) ∧ i.size = 1 ∧ i.bytes = 8 := by
  have h : (Yba.prog.info? 2).map (fun i => (i.zero, i.size, i.bytes)) = some (some (.int .i64 0), 1, 8) := by kernel_rfl
  obtain ⟨i, hi, hz⟩ := Option.map_eq_some_iff.1 h
  simp only [Prod.mk.injEq] at hz
  exact ⟨i, hi, hz.1, hz.2.1, hz.2.2⟩

theorem KRow.index {w : World} {B : Nat} {v : Value} {zs : List Int} (h : KRow w B v zs) :
    ∃ g, (zs.length = 0 ∨ v.ownBlock = some g ∧ B ≤ g ∧ g < w.heap.size) ∧
      (∀ m : Nat, m < zs.length → ∀ w', (Instr.indexAt 22 v (.int .i64 (m : Int))).run Yba.prog w' = .ok (.pointer (some ⟨g, 0 + m, Option.none⟩)) w') ∧
      (∀ m : Nat, m < zs.length → w.cell? ⟨g, 0 + m, Option.none⟩ = some (.int .i64 (zs.getD m 0))) := by
  have hh := h
  rcases h.form with ⟨rfl, rfl⟩ | ⟨g, cap, cur, rfl, h2, h3, h4, h5, h6, h7, h8⟩
  · exact ⟨0, .inl rfl, fun m hm => by simp at hm, fun m hm => by simp at hm⟩
  · refine ⟨g, .inr ⟨rfl, h2, h3⟩, fun m hm w' => ?_, fun m hm => ?_⟩
    · have hs : Yba.prog.elem 22 = 2 := by kernel_rfl
      obtain ⟨i, hi1, _, hi2, _⟩ := info2
      rw [run_indexAt_slice _ _ _ _ _ _ _ (by kernel_rfl), if_pos (by omega), hs]
      simp [sizeOf, typeInfo, hi1, hi2, Addr.add_lit]
    · rw [Nat.zero_add, World.ownsRow.cellAt hh m (by omega), List.getElem?_map, List.getD_eq_getElem?_getD, List.getElem?_eq_getElem hm]
      rfl

/-! ### slices.Clone, Sort, Compact -/

theorem eql22 : ∀ (w : World) (a : Option Addr) (n c n' c' : Nat), (binOp .eql 22 (.slice a n c) (.slice Option.none n' c')).run Yba.prog w = .ok (.bool a.isNone) w := fun w a n c n' c' => Lib.run_eql_slice_nil w _ _ a n c n' c' Yba.underlying22

set_option maxRecDepth 100000 in
set_option maxHeartbeats 2000000 in
theorem clone_some (ad : Addr) (n c : Nat) (zs : List Int) (w : World) (hl : zs.length = n) (hn : n ≤ 1024) (hc : ∀ j, j < n → w.cell? (ad.add j) = some (.int .i64 (zs.getD j 0))) :
    Calls Yba.prog 16 #[.slice (some ad) n c] w fun e w' => ∃ v', e = .returned v' ∧ KRow w' w.heap.size v' zs ∧ Below w.heap.size w w' := by
  obtain ⟨i0, hi0, hz0, hsz0, hby0⟩ := info2
  have q22 := eql22
  have A : Aside (∀ j, j < n → w.cell? (ad.add j) = some (.int .i64 (zs.getD j 0))) := hc
  clear hc
  go_enter Yba.func16, Yba.ntmps16
  go_wp2_with (at_builtin; refine wpList_append_own _ rfl _ _ 22 rfl w.heap.size 2 i0 _ 1 8 Yba.underlying22 hi0 hz0 hsz0 hby0 rfl (by decide) _ _ _ rfl (World.ownsRow_made w #[] 0 (Nat.le_refl _) (Nat.zero_le _) (by simp)) ad n c (zs.map (Value.int .i64)) rfl ?qc1 ?qc2 ?qc3 ?qc4 ?qc5 ?qc6 ?_)
  case qc1 => simp [hl]
  case qc2 =>
    intro j u hj
    rw [List.getElem?_map] at hj
    have hjn : j < n := by
      by_cases h : j < zs.length
      · omega
      · simp [List.getElem?_eq_none (by omega : zs.length ≤ j)] at hj
    have := A.out j hjn
    rw [List.getD_eq_getElem?_getD, List.getElem?_eq_getElem (by omega)] at this
    rw [List.getElem?_eq_getElem (by omega)] at hj
    simp at hj
    subst hj
    exact Lib.cell?_alloc_some _ this
  case qc3 => intro u hu; simp at hu; obtain ⟨a, _, rfl⟩ := hu; rfl
  case qc4 => unfold maxLen; omega
  case qc5 => omega
  case qc6 => simp
  intro v' w1 hown hgrow hnil
  go_wp2
  go_ret
  refine ⟨v', rfl, by unfold KRow; rw [hl]; simpa using hown, ?_⟩
  exact ((Below.refl _ w).alloc (Nat.le_refl _) _).grown hgrow (by simp) (by intro k hk; simp [Value.ownBlock] at hk; omega)

theorem clone_keys (a : Option Addr) (n c : Nat) (zs : List Int) (w : World) (hn : n ≤ 1024)
    (h : (a = none ∧ n = 0 ∧ c = 0 ∧ zs = []) ∨ ∃ x, a = some x ∧ n ≤ c ∧ c ≤ maxLen ∧ zs.length = c ∧ (∀ i, i < zs.length → w.cell? (x.add i) = some (.int .i64 (zs.getD i 0))) ∧ ∀ m ∈ zs, (Lit.int .i64 m).wf = true) :
    Calls Yba.prog 16 #[.slice a n c] w fun e w' => ∃ v', e = .returned v' ∧ KRow w' w.heap.size v' (zs.take n) ∧ Below w.heap.size w w' := by
  rcases h with ⟨rfl, rfl, rfl, rfl⟩ | ⟨x, rfl, h1, h2, h3, h4, h5⟩
  · refine (AnyE.slices_Clone_nil clone16 0 0 w).mono ?_
    rintro e w' ⟨rfl, rfl⟩
    exact ⟨_, rfl, KRow.none _ _, Below.refl _ _⟩
  · refine clone_some x n c (zs.take n) w (by simp; omega) hn (fun j hj => ?_)
    rw [h4 j (by omega), List.getD_eq_getElem?_getD, List.getD_eq_getElem?_getD, List.getElem?_take_of_lt hj]

theorem sort_keys (v : Value) (zs : List Int) (B : Nat) (w : World) (h : KRow w B v zs) (hB : B ≤ w.heap.size) (hz : zs.length ≤ 1024) :
    Calls Yba.prog 17 #[v] w fun e w' => e = .returned (.tuple #[]) ∧ KRow w' B v (zs.mergeSort fun x y => decide (x ≤ y)) ∧ Below B w w' := by
  have hm : (zs.mergeSort fun x y => decide (x ≤ y)).length = zs.length := List.length_mergeSort zs
  rcases h.form with ⟨rfl, rfl⟩ | ⟨g, cap, cur, rfl, h2, h3, h4, h5, h6, h7, h8⟩
  · refine (AnyM.slices_Sort_int_none sort17 none 0 w).mono ?_
    rintro e w' ⟨rfl, rfl⟩
    exact ⟨rfl, by simpa using KRow.none _ _, Below.refl _ _⟩
  · have hH : Holds (Value.int .i64) w g 0 zs.toArray := by
      intro j hj
      have hj' : j < zs.length := by simpa using hj
      refine ⟨?_, h.frozenAt _⟩
      rw [Nat.zero_add, World.ownsRow.cellAt h j (by omega), List.getElem?_map, List.getElem?_eq_getElem hj']
      simp [hj']
    refine (AnyM.slices_Sort_int sort17 g 0 cap zs w hH h3 (by omega)).mono ?_
    rintro e w' ⟨rfl, n, os, rfl⟩
    refine ⟨rfl, ?_, (Below.refl B w).grown (grownBy_sortedI _) hB (by intro k hk; simp at hk; omega)⟩
    have := ownsRow_sortedI (n := n) (os := os) hm h2 h4 h5 h6 h7
    unfold KRow
    rw [hm]; exact this

theorem compact_keys (v : Value) (zs : List Int) (B : Nat) (w : World) (h : KRow w B v zs) (hz : zs.length ≤ 1024) :
    Calls Yba.prog 18 #[v] w fun e w' => ∃ v', e = .returned v' ∧ KRow w' B v' (Lib.compact zs) ∧ Below B w w' := by
  have hle := Lib.compact_length_le zs
  rcases h.form with ⟨rfl, rfl⟩ | ⟨g, cap, cur, rfl, h2, h3, h4, h5, h6, h7, h8⟩
  · refine (AnyG.slices_Compact_int_empty compact18 none 0 w).mono ?_
    rintro e w' ⟨rfl, rfl⟩
    exact ⟨_, rfl, KRow.none _ _, Below.refl _ _⟩
  · have hH : Holds (Value.int .i64) w g 0 zs.toArray := by
      intro j hj
      have hj' : j < zs.length := by simpa using hj
      refine ⟨?_, h.frozenAt _⟩
      rw [Nat.zero_add, World.ownsRow.cellAt h j (by omega), List.getElem?_map, List.getElem?_eq_getElem hj']
      simp [hj']
    refine (AnyG.slices_Compact_int compact18 g 0 cap zs w hH (by omega) h5).mono ?_
    rintro e w' ⟨rfl, q, rfl⟩
    refine ⟨_, rfl, ?_, Lib.below_putRow (Below.refl B w) h2⟩
    have := Lib.ownsRow_putRow (q := q) (k := (Lib.compact zs).length) (ys := Lib.compact zs ++ List.replicate (zs.length - (Lib.compact zs).length) 0) h (by simp; omega) hle
    rw [List.take_left'  rfl] at this
    exact this

/-! ### the keys ascend -/

theorem compact_asc (zs : List Int) (hs : zs.Pairwise (· ≤ ·)) : Asc (fun i => (Lib.compact zs).getD i 0) (Lib.compact zs).length := by
  have hget : ∀ i j, i ≤ j → j < zs.length → zs.toArray[i]! ≤ zs.toArray[j]! := by
    intro i j h1 h2
    rcases Nat.lt_or_ge i j with h | h
    · have := List.pairwise_iff_getElem.1 hs i j (by omega) h2 h
      simpa [show i < zs.length by omega, h2] using this
    · have : i = j := by omega
      subst this; exact Int.le_refl _
  have hp : (Lib.compact zs).Pairwise (· < ·) := by
    unfold Lib.compact Lib.compactUpTo
    rw [List.pairwise_map]
    have h1 : ((List.range zs.length).filter (Lib.keeps zs.toArray)).Pairwise (· < ·) := List.pairwise_lt_range.filter _
    refine List.Pairwise.imp_of_mem ?_ h1
    intro i j hi hj hlt
    simp only [List.mem_filter, List.mem_range] at hi hj
    have hk : zs.toArray[j]! ≠ zs.toArray[j - 1]! := by
      have := hj.2
      simp only [Lib.keeps, decide_eq_true_eq] at this
      rcases this with h | h
      · omega
      · exact h
    have h2 := hget i (j - 1) (by omega) (by omega)
    have h3 := hget (j - 1) j (by omega) (by omega)
    omega
  intro i j hij hj
  have := List.pairwise_iff_getElem.1 hp i j (by omega) hj hij
  simpa [List.getD_eq_getElem?_getD, List.getElem?_eq_getElem (show i < (Lib.compact zs).length by omega), List.getElem?_eq_getElem hj] using this

theorem sorted_pairwise (zs : List Int) : (zs.mergeSort fun x y => decide (x ≤ y)).Pairwise (· ≤ ·) := by
  have := List.pairwise_mergeSort (le := fun (x y : Int) => decide (x ≤ y)) (by intro a b c h1 h2; simp at *; omega) (by intro a b; simp; omega) zs
  simpa using this
end Go.Proofs.Ybulkczzo
