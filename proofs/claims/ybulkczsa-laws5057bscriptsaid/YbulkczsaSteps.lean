/-
  A slice of ZzS5057BStep that came in, opened.
-/
import Derived.Test.YbulkczsaProg
import Derived.WalkKit
import Derived.ProofKit
import Derived.OpenShut
import Derived.Deep.Strs
import Derived.Deep.Slices
namespace Go.Proofs.Ybulkczsa
open Go.ChangeShapes Go.WideShapes Go.ChangeAt Go.RowKit Go.Deep

theorem cells52 : Yba.prog.cellsOf 52 = 2 := by kernel_rfl
theorem cells5 : Yba.prog.cellsOf 5 = 1 := by kernel_rfl

theorem wf_u8 {n : Int} (h : (Lit.int .u8 n).wf = true) : 0 ≤ n ∧ n ≤ 255 := by
  have := bounds_u8 h; omega

set_option maxRecDepth 100000 in
theorem open_steps {H : Type} {enc : TypeId × Value → H} {W : World} {spare : Nat → Bool} {held : Bool} {fuel len cap : Nat} {a : Option Addr} {x : DataW H × List MemPlace}
    (h : DataW.trod enc Yba.prog W 0 spare held fuel 26 [.slice a len cap] = some x) :
    ∃ (b off : Nat) (OP SS : Nat → Int),
      (∀ k : Nat, k < len → ∀ w', (Instr.indexAt 26 (.slice a len cap) (.int .i64 (k : Int))).run Yba.prog w' = .ok (.pointer (some ⟨b, off + k * 2, none⟩)) w') ∧
      (∀ k : Nat, k < len → b < W.heap.size ∧ W.cell? ⟨b, off + k * 2, none⟩ = some (.int .u8 (OP k)) ∧ W.cell? ⟨b, off + k * 2 + 1, none⟩ = some (.int .u8 (SS k)) ∧
        0 ≤ OP k ∧ OP k ≤ 255 ∧ 0 ≤ SS k ∧ SS k ≤ 255) := by
  by_cases h0 : len = 0
  · subst h0
    exact ⟨0, 0, fun _ => 0, fun _ => 0, fun k hk => by omega, fun k hk => by omega⟩
  rcases open_slice Yba.underlying26 h with ⟨hcs, _⟩ | ⟨a', len', cap', m, n, D, Pl, hcs, _, hl, hm, hmm, _, hx⟩
  · simp at hcs; omega
  simp only [List.cons.injEq, Value.slice.injEq, and_true] at hcs
  obtain ⟨rfl, rfl, rfl⟩ := hcs
  have hlm : len ≤ m := by rw [hmm]; split <;> omega
  have each : ∀ i, i < len → ∃ q : Int × Int, W.cell? (a'.add (i * 2)) = some (.int .u8 q.1) ∧ W.cell? (a'.add (i * 2 + 1)) = some (.int .u8 q.2) ∧ (0 ≤ q.1 ∧ q.1 ≤ 255) ∧ 0 ≤ q.2 ∧ q.2 ≤ 255 := by
    intro i hi
    obtain ⟨cs', h1, h2⟩ := hx i (by omega)
    rw [cells52] at h1
    obtain ⟨_, hlen, hcell⟩ := World.cells?_some h1
    obtain ⟨y0, y1, n', _, _, g0, g1⟩ := trod_struct2 Yba.underlying52 h2
    match cs', hlen with
    | [v0, v1], _ =>
      simp only [cells5] at g0 g1
      obtain ⟨p, hp, _, wp⟩ := DataW.trod_int Yba.underlying5 g0
      obtain ⟨k, hk, _, wk⟩ := DataW.trod_int Yba.underlying5 g1
      simp at hp hk
      subst hp hk
      have e0 := hcell 0 (by omega)
      have e1 := hcell 1 (by omega)
      rw [add_add] at e0 e1
      exact ⟨(p, k), by simpa using e0, by simpa using e1, wf_u8 wp, wf_u8 wk⟩
  obtain ⟨q, hq⟩ := choose_lt each
  obtain ⟨b, off, spot⟩ := a'
  have hspot : spot = none := by simpa [Addr.add] using World.cell?_spot (hq 0 (by omega)).1
  subst hspot
  have hb : b < W.heap.size := by
    have := (hq 0 (by omega)).1
    rw [add_plain] at this
    unfold World.cell? at this
    by_cases hlt : b < W.heap.size
    · exact hlt
    · simp [Array.getElem?_eq_none (Nat.le_of_not_lt hlt)] at this
  refine ⟨b, off, fun i => (q i).1, fun i => (q i).2, ?_, ?_⟩
  · intro k hk w'
    have hs : Yba.prog.elem 26 = 52 := by kernel_rfl
    have hi : (Yba.prog.info? 52).map (fun i => i.size) = some 2 := by kernel_rfl
    obtain ⟨i, hi1, hi2⟩ := Option.map_eq_some_iff.1 hi
    rw [run_indexAt_slice _ _ _ _ _ _ _ (by kernel_rfl), if_pos (by omega), hs]
    simp [sizeOf, typeInfo, hi1, hi2, add_plain]
  · intro k hk
    obtain ⟨e0, e1, e2, e3⟩ := hq k hk
    rw [add_plain] at e0 e1
    exact ⟨hb, e0, e1, e2.1, e2.2, e3.1, e3.2⟩
end Go.Proofs.Ybulkczsa
