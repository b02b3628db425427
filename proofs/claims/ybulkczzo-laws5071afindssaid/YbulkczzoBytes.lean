/-
  A slice of bytes that came in, as the walks of seat b5071a take it.
-/
import Derived.Test.YbulkczzoProg
import Derived.WalkKit
import Derived.ProofKit
import Derived.OpenShut
namespace Go.Proofs.Ybulkczzo
open Go.ChangeShapes Go.WideShapes Go.ChangeAt Go.RowKit

theorem wf_u8 {n : Int} (h : (Lit.int .u8 n).wf = true) : 0 ≤ n ∧ n ≤ 255 := by
  have := bounds_u8 h; omega
theorem wf_u16 {n : Int} (h : (Lit.int .u16 n).wf = true) : 0 ≤ n ∧ n ≤ 65535 := by
  have := bounds_u16 h; omega

theorem open_bytes {w : World} {a : Option Addr} {len cap : Nat} {zs : List Int}
    (h : (a = none ∧ len = 0 ∧ cap = 0 ∧ zs = []) ∨ ∃ x, a = some x ∧ len ≤ cap ∧ cap ≤ maxLen ∧ zs.length = cap ∧ (∀ i, i < zs.length → w.cell? (x.add i) = some (.int .u8 (zs.getD i 0))) ∧ ∀ n ∈ zs, (Lit.int .u8 n).wf = true) :
    ∃ (z : Nat → Int) (b off : Nat),
      (∀ k : Nat, k < len → ∀ w', (Instr.indexAt 23 (.slice a len cap) (.int .i64 (k : Int))).run Yba.prog w' = .ok (.pointer (some ⟨b, off + k, none⟩)) w') ∧
      (∀ k : Nat, k < len → b < w.heap.size ∧ w.cell? ⟨b, off + k, none⟩ = some (.int .u8 (z k)) ∧ 0 ≤ z k ∧ z k ≤ 255) := by
  by_cases h0 : len = 0
  · subst h0
    exact ⟨fun _ => 0, 0, 0, fun k hk => by omega, fun k hk => by omega⟩
  rcases h with ⟨_, h1, _⟩ | ⟨x, rfl, hl, _, hzl, hc, hw⟩
  · omega
  obtain ⟨b, off, rfl, hcell⟩ := ints_at hc (by omega)
  have hb : b < w.heap.size := by
    have := hcell 0 (by omega)
    unfold World.cell? at this
    by_cases hlt : b < w.heap.size
    · exact hlt
    · simp [Array.getElem?_eq_none (Nat.le_of_not_lt hlt)] at this
  refine ⟨fun k => zs.getD k 0, b, off, ?_, ?_⟩
  · intro k hk w'
    have hs : Yba.prog.elem 23 = 5 := by kernel_rfl
    have hi : (Yba.prog.info? 5).map (fun i => i.size) = some 1 := by kernel_rfl
    obtain ⟨i, hi1, hi2⟩ := Option.map_eq_some_iff.1 hi
    rw [run_indexAt_slice _ _ _ _ _ _ _ (by kernel_rfl), if_pos (by omega), hs]
    simp [sizeOf, typeInfo, hi1, hi2, add_plain]
  · intro k hk
    refine ⟨hb, hcell k (by omega), wf_u8 (hw _ ?_)⟩
    show zs.getD k 0 ∈ zs
    rw [List.getD_eq_getElem?_getD, List.getElem?_eq_getElem (by omega)]
    exact List.getElem_mem _
end Go.Proofs.Ybulkczzo
