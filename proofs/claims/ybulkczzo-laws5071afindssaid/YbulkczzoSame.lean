/-
  Two rows of nodes alike: slices.Clone and slices.Equal at treapNode, over seat b5071a's program.
-/
import Derived.Test.YbulkczzoMake
import Derived.Laws.StructEq
namespace Go.Proofs.Ybulkczzo
open Go.RowKit

theorem part_v (a b c d : Value) (w : World) : (part 33 #[a, b, c, d] 0).run Yba.prog w = .ok a w := by kernel_rfl
theorem part_p (a b c d : Value) (w : World) : (part 25 #[a, b, c, d] 1).run Yba.prog w = .ok b w := by kernel_rfl
theorem part_l (a b c d : Value) (w : World) : (part 3 #[a, b, c, d] 2).run Yba.prog w = .ok c w := by kernel_rfl
theorem part_r (a b c d : Value) (w : World) : (part 3 #[a, b, c, d] 3).run Yba.prog w = .ok d w := by kernel_rfl

theorem neq35 (v l r v' l' r' : Int) (w : World) :
    (binOp .neq 35 (.agg #[.int .i64 v, .int .u64 0, .int .i64 l, .int .i64 r]) (.agg #[.int .i64 v', .int .u64 0, .int .i64 l', .int .i64 r'])).run Yba.prog w = .ok (.bool (!(v == v' && l == l' && r == r'))) w := by
  have hu := Yba.underlying35
  have hf : Yba.prog.underlying 35 = some (.struct (Yba.prog.fieldsOf 35)) := by kernel_rfl
  have hp : Yba.prog.stoodInHeld 35 = false := by kernel_rfl
  rw [run_neq_struct, show (10000 : Nat) = 9999 + 1 from rfl, run_equalIn_agg _ _ _ _ _ hf hp]
  rw [hu] at hf
  injection hf with hf
  injection hf with hf
  rw [← hf]
  have e1 := run_equalIn_int (P := Yba.prog) (t := 33) (k := .i64) (h := Yba.underlying33)
  have e2 := run_equalIn_int (P := Yba.prog) (t := 25) (k := .u64) (h := Yba.underlying25)
  have e3 := run_equalIn_int (P := Yba.prog) (t := 3) (k := .i64) (h := Yba.underlying3)
  rw [show (9999 : Nat) = 9998 + 1 from rfl]
  simp only [Op.eqFields, Sem.run_bind, part_v, part_p, part_l, part_r, e1, e2, e3, Result.andThen_ok, Sem.run_ite, Sem.run_pure]
  by_cases h1 : v = v' <;> by_cases h2 : l = l' <;> by_cases h3 : r = r' <;> simp [h1, h2, h3]

/-- a node's cells -/
def encN (x : Int × Int × Int) : List Value := [.int .i64 x.1, .int .u64 0, .int .i64 x.2.1, .int .i64 x.2.2]
def eqN (x y : Int × Int × Int) : Bool := x.1 == y.1 && x.2.1 == y.2.1 && x.2.2 == y.2.2

theorem neqN : NeqAt Yba.prog 35 (fun x => .agg (encN x).toArray) eqN :=
  ⟨fun x y w => neq35 _ _ _ _ _ _ w, GuardAt.agg (fun x => (encN x).toArray) (by kernel_rfl)⟩

def nodesOf (V L R : Nat → Int) (n : Nat) : List (Int × Int × Int) := (List.range n).map fun i => (V i, L i, R i)

theorem nodes_cell {w : World} {B g cap n : Nat} {V L R : Nat → Int} (h : w.ownsRow B 35 4 (.slice (some ⟨g, 0, none⟩) n cap) n (nodeCells V L R n)) :
    ∀ j, j < (nodesOf V L R n).length → ∀ i v, (encN (nodesOf V L R n)[j]!)[i]? = some v → w.cell? ⟨g, 0 + j * 4 + i, none⟩ = some v := by
  intro j hj i v hv
  have hj' : j < n := by simpa [nodesOf] using hj
  have e : (nodesOf V L R n)[j]! = (V j, L j, R j) := by simp [nodesOf, hj']
  rw [e] at hv
  have hi : i < 4 := by
    by_cases hi : i < 4
    · exact hi
    · rw [List.getElem?_eq_none (by simp [encN]; omega)] at hv; cases hv
  rw [Nat.zero_add, h.cellAt _ (by omega), nodeCells_get V L R n j i hj' hi]
  exact hv

theorem equal_nodes {w : World} {B g cap B' g' cap' n : Nat} {V L R : Nat → Int} (hn : n ≤ 100000) (h : w.ownsRow B 35 4 (.slice (some ⟨g, 0, none⟩) n cap) n (nodeCells V L R n)) (h' : w.ownsRow B' 35 4 (.slice (some ⟨g', 0, none⟩) n cap') n (nodeCells V L R n)) :
    Calls Yba.prog 10 #[.slice (some ⟨g, 0, none⟩) n cap, .slice (some ⟨g', 0, none⟩) n cap'] w fun e w' => e = .returned (.bool true) ∧ ∃ q, w' = w.drewN q := by
  have hl : (nodesOf V L R n).length = n := by simp [nodesOf]
  refine (AnyQ.slices_Equal equal10 4 Yba.isAgg35 Yba.sizeOf35 encN (fun _ => rfl) eqN neqN g 0 n cap g' 0 n cap' (nodesOf V L R n) (nodesOf V L R n) w (by omega) (by omega) (by omega) (by omega) (nodes_cell h) (nodes_cell h')).mono ?_
  rintro e w' ⟨rfl, q, rfl⟩
  refine ⟨?_, q, rfl⟩
  congr 2
  exact Lib.allEq_all eqN _ _ rfl (fun j _ => by simp [eqN])

theorem clone_nodes {w : World} {B g cap n : Nat} {V L R : Nat → Int} (hn : n ≤ 100000) (hpos : 1 ≤ n) (h : w.ownsRow B 35 4 (.slice (some ⟨g, 0, none⟩) n cap) n (nodeCells V L R n)) :
    Calls Yba.prog 8 #[.slice (some ⟨g, 0, none⟩) n cap] w fun e w' => ∃ g' cap', e = .returned (.slice (some ⟨g', 0, none⟩) n cap') ∧ w'.ownsRow w.heap.size 35 4 (.slice (some ⟨g', 0, none⟩) n cap') n (nodeCells V L R n) ∧ Below w.heap.size w w' := by
  obtain ⟨i0, hi0, hz0, hsz0, hby0⟩ := info35
  refine (AnyE.slices_Clone clone8 i0 _ 4 32 hi0 hz0 hsz0 hby0 rfl (by decide) Yba.sizeOf35 g 0 n cap (nodeCells V L R n) w (nodeCells_length _ _ _ _) (by unfold maxLen; omega) (by omega) ?_ ?_).mono ?_
  · intro j u hu
    have hj : j < n * 4 := by
      by_cases hj : j < n * 4
      · exact hj
      · rw [List.getElem?_eq_none (by rw [nodeCells_length]; omega)] at hu; cases hu
    rw [Nat.zero_add, h.cellAt _ hj]; exact hu
  · intro u hu
    unfold nodeCells at hu
    simp only [List.mem_flatMap, List.mem_cons, List.not_mem_nil, or_false] at hu
    obtain ⟨_, _, rfl | rfl | rfl | rfl⟩ := hu <;> rfl
  · rintro e w' ⟨v', rfl, ho, _, hb⟩
    obtain ⟨m, rfl⟩ : ∃ m, n = m + 1 := ⟨n - 1, by omega⟩
    obtain ⟨g', cap', rfl⟩ := own_form ho
    exact ⟨g', cap', rfl, ho, hb⟩
end Go.Proofs.Ybulkczzo
