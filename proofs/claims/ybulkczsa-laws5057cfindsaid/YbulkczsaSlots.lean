/-
  A slice of ZzS5057CSlot that came in, opened.
-/
import Derived.Test.YbulkczsaProg
import Derived.WalkKit
import Derived.ProofKit
import Derived.OpenShut
import Derived.Deep.Strs
import Derived.Deep.Slices
namespace Go.Proofs.Ybulkczsa
open Go.ChangeShapes Go.WideShapes Go.ChangeAt Go.RowKit Go.Deep

theorem cells72 : Yba.prog.cellsOf 72 = 3 := by kernel_rfl
theorem cells4 : Yba.prog.cellsOf 4 = 1 := by kernel_rfl
theorem cells5 : Yba.prog.cellsOf 5 = 1 := by kernel_rfl
theorem cells37 : Yba.prog.cellsOf 37 = 1 := by kernel_rfl

theorem wf_u8 {n : Int} (h : (Lit.int .u8 n).wf = true) : 0 ≤ n ∧ n ≤ 255 := by
  have := bounds_u8 h; omega

set_option maxRecDepth 100000 in
theorem open_slots {H : Type} {enc : TypeId × Value → H} {W : World} {spare : Nat → Bool} {held : Bool} {fuel len cap : Nat} {a : Option Addr} {x : DataW H × List MemPlace}
    (h : DataW.trod enc Yba.prog W 0 spare held fuel 69 [.slice a len cap] = some x) :
    ∃ (b off : Nat) (PR : Nat → Bool) (PK US : Nat → Int),
      (∀ k : Nat, k < len → ∀ w', (Instr.indexAt 69 (.slice a len cap) (.int .i64 (k : Int))).run Yba.prog w' = .ok (.pointer (some ⟨b, off + k * 3, none⟩)) w') ∧
      (∀ k : Nat, k < len → b < W.heap.size ∧ W.cell? ⟨b, off + k * 3, none⟩ = some (.bool (PR k)) ∧ W.cell? ⟨b, off + k * 3 + 1, none⟩ = some (.int .u8 (PK k)) ∧
        W.cell? ⟨b, off + k * 3 + 2, none⟩ = some (.int .u64 (US k)) ∧ 0 ≤ PK k ∧ PK k ≤ 255) := by
  by_cases h0 : len = 0
  · subst h0
    exact ⟨0, 0, fun _ => false, fun _ => 0, fun _ => 0, fun k hk => by omega, fun k hk => by omega⟩
  rcases open_slice Yba.underlying69 h with ⟨hcs, _⟩ | ⟨a', len', cap', m, n, D, Pl, hcs, _, hl, hm, hmm, _, hx⟩
  · simp at hcs; omega
  simp only [List.cons.injEq, Value.slice.injEq, and_true] at hcs
  obtain ⟨rfl, rfl, rfl⟩ := hcs
  have hlm : len ≤ m := by rw [hmm]; split <;> omega
  have each : ∀ i, i < len → ∃ q : Bool × Int × Int, W.cell? (a'.add (i * 3)) = some (.bool q.1) ∧ W.cell? (a'.add (i * 3 + 1)) = some (.int .u8 q.2.1) ∧ W.cell? (a'.add (i * 3 + 2)) = some (.int .u64 q.2.2) ∧ 0 ≤ q.2.1 ∧ q.2.1 ≤ 255 := by
    intro i hi
    obtain ⟨cs', h1, h2⟩ := hx i (by omega)
    rw [cells72] at h1
    obtain ⟨_, hlen, hcell⟩ := World.cells?_some h1
    obtain ⟨y0, y1, y2, n', _, _, g0, g1, g2⟩ := trod_struct3 Yba.underlying72 h2
    match cs', hlen with
    | [v0, v1, v2], _ =>
      simp only [cells4, cells5, cells37] at g0 g1 g2
      obtain ⟨p, hp, _⟩ := DataW.trod_bool Yba.underlying4 g0
      obtain ⟨k, hk, _, wk⟩ := DataW.trod_int Yba.underlying5 g1
      obtain ⟨u, hu, _, _⟩ := DataW.trod_int Yba.underlying37 g2
      simp at hp hk hu
      subst hp hk hu
      have e0 := hcell 0 (by omega)
      have e1 := hcell 1 (by omega)
      have e2 := hcell 2 (by omega)
      rw [add_add] at e0 e1 e2
      exact ⟨(p, k, u), by simpa using e0, by simpa using e1, by simpa using e2, wf_u8 wk⟩
  obtain ⟨q, hq⟩ := choose_lt each
  obtain ⟨b, off, spot⟩ := a'
  have hspot : spot = none := by simpa [Addr.add] using World.cell?_spot (hq 0 (by omega)).1
  subst hspot
  have hb : b < W.heap.size := by
    have := (hq 0 (by omega)).1
    rw [add_plain] at this
    unfold World.cell? at this
    by_cases hlt : b < W.heap.size
    · exact hlt
    · simp [Array.getElem?_eq_none (Nat.le_of_not_lt hlt)] at this
  refine ⟨b, off, fun i => (q i).1, fun i => (q i).2.1, fun i => (q i).2.2, ?_, ?_⟩
  · intro k hk w'
    have hs : Yba.prog.elem 69 = 72 := by kernel_rfl
    have hi : (Yba.prog.info? 72).map (fun i => i.size) = some 3 := by kernel_rfl
    obtain ⟨i, hi1, hi2⟩ := Option.map_eq_some_iff.1 hi
    rw [run_indexAt_slice _ _ _ _ _ _ _ (by kernel_rfl), if_pos (by omega), hs]
    simp [sizeOf, typeInfo, hi1, hi2, add_plain]
  · intro k hk
    obtain ⟨e0, e1, e2, e3, e4⟩ := hq k hk
    rw [add_plain] at e0 e1 e2
    exact ⟨hb, e0, e1, e2, e3, e4⟩
end Go.Proofs.Ybulkczsa
