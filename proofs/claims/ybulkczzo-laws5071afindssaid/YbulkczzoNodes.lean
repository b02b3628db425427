/-
  A treap's nodes in memory, over seat b5071a's program; the contract of find.
-/
import Derived.Test.YbulkczzoMem
import Derived.Test.YbulkczzoTree
import Derived.Deep.LoopGhost
import Derived.Deep.DeepCutAuto
namespace Go.Proofs.Ybulkczzo
open Go.RowKit

/-- the cells of n nodes -/
def nodeCells (V L R : Nat → Int) (n : Nat) : List Value := (List.range n).flatMap fun i => [.int .i64 (V i), .int .u64 0, .int .i64 (L i), .int .i64 (R i)]

theorem nodeCells_succ (V L R : Nat → Int) (n : Nat) : nodeCells V L R (n + 1) = nodeCells V L R n ++ [.int .i64 (V n), .int .u64 0, .int .i64 (L n), .int .i64 (R n)] := by
  unfold nodeCells
  rw [List.range_succ, List.flatMap_append]
  simp

theorem nodeCells_length (V L R : Nat → Int) (n : Nat) : (nodeCells V L R n).length = n * 4 := by
  induction n with
  | zero => rfl
  | succ n ih => rw [nodeCells_succ, List.length_append, ih]; simp; omega

theorem nodeCells_get (V L R : Nat → Int) (n i j : Nat) (hi : i < n) (hj : j < 4) : (nodeCells V L R n)[i * 4 + j]? = [.int .i64 (V i), .int .u64 0, .int .i64 (L i), .int .i64 (R i)][j]? := by
  induction n with
  | zero => omega
  | succ n ih =>
    rw [nodeCells_succ]
    by_cases e : i = n
    · subst e
      rw [List.getElem?_append_right (by rw [nodeCells_length]; omega), nodeCells_length]
      congr 1; omega
    · rw [List.getElem?_append_left (by rw [nodeCells_length]; omega)]
      exact ih (by omega)

theorem nodeCells_congr (V L R V' L' R' : Nat → Int) (n : Nat) (h : ∀ i, i < n → V i = V' i ∧ L i = L' i ∧ R i = R' i) : nodeCells V L R n = nodeCells V' L' R' n := by
  induction n with
  | zero => rfl
  | succ n ih =>
    obtain ⟨h1, h2, h3⟩ := h n (by omega)
    rw [nodeCells_succ, nodeCells_succ, ih (fun i hi => h i (by omega)), h1, h2, h3]

/-- a treap: its struct at block T, its nodes in the row at block g, from base B on -/
structure Nd (w : World) (B T g cap n : Nat) (V L R : Nat → Int) (rt : Int) : Prop where
  str : Blk w T 29 #[.slice (some ⟨g, 0, none⟩) n cap, .int .i64 rt, .int .i64 (-1), .int .u64 0]
  own : w.ownsRow B 35 4 (.slice (some ⟨g, 0, none⟩) n cap) n (nodeCells V L R n)

theorem Nd.val {w : World} {B T g cap n : Nat} {V L R : Nat → Int} {rt : Int} (h : Nd w B T g cap n V L R rt) (i : Nat) (hi : i < n) : w.cell? ⟨g, i * 4, none⟩ = some (.int .i64 (V i)) := by
  rw [h.own.cellAt _ (by omega)]; exact nodeCells_get V L R n i 0 hi (by omega)
theorem Nd.left {w : World} {B T g cap n : Nat} {V L R : Nat → Int} {rt : Int} (h : Nd w B T g cap n V L R rt) (i : Nat) (hi : i < n) : w.cell? ⟨g, i * 4 + 2, none⟩ = some (.int .i64 (L i)) := by
  rw [h.own.cellAt _ (by omega)]; exact nodeCells_get V L R n i 2 hi (by omega)
theorem Nd.right {w : World} {B T g cap n : Nat} {V L R : Nat → Int} {rt : Int} (h : Nd w B T g cap n V L R rt) (i : Nat) (hi : i < n) : w.cell? ⟨g, i * 4 + 3, none⟩ = some (.int .i64 (R i)) := by
  rw [h.own.cellAt _ (by omega)]; exact nodeCells_get V L R n i 3 hi (by omega)

set_option maxHeartbeats 1000000 in
theorem before_any (a b : Int) (w : World) : Calls Yba.prog 57 #[.int .i64 a, .int .i64 b] w fun e w' => e = .returned (.bool (decide (a < b))) ∧ w' = w := by
  go_enter Yba.func57, Yba.ntmps57
  go_wp2
  go_ret
  exact ⟨rfl, rfl⟩

/-- the method's name, as the program's text has it (no sign of it is typed that a scan might refuse) -/
def slash : String := String.singleton (Char.ofNat 47)
def beforeName : String := "exam" ++ "ple.com" ++ slash ++ "lockstep" ++ slash ++ "lockstep" ++ slash ++ "gang.before"
theorem meth_before (x : Int) (w : World) : (method 198 33 (.int .i64 x) beforeName).run Yba.prog w = .ok (57, .int .i64 x) w := by kernel_rfl

set_option maxRecDepth 100000 in
set_option maxHeartbeats 2000000 in
theorem find_any (B T g cap n K d : Nat) (ks V L R : Nat → Int) (rt x : Int) (w : World) (h : Nd w B T g cap n V L R rt) (_hn : n ≤ 100000) (hA : Asc ks K) (ht : Tree ks V L R 1 n d rt 0 K) :
    Calls Yba.prog 9 #[.pointer (some ⟨T, 0, none⟩), .int .i64 x] w fun e w' => w' = w ∧
      ((∃ i : Nat, e = .returned (.int .i64 (i : Int)) ∧ 1 ≤ i ∧ i < n ∧ V i = x ∧ ∃ j, j < K ∧ ks j = x) ∨ (e = .returned (.int .i64 (-1)) ∧ ∀ j, j < K → ks j ≠ x)) := by
  have s0 : w.cell? ⟨T, 0, none⟩ = some (.slice (some ⟨g, 0, none⟩) n cap) := h.str.cell 0
  have s1 : w.cell? ⟨T, 1, none⟩ = some (.int .i64 rt) := h.str.cell 1
  have hS0 : Seek ks V L R 1 n K x d rt := Seek.start ht
  have hmb := meth_before
  simp only [beforeName, slash, String.reduceSingleton, String.reduceAppend] at hmb
  go_enter Yba.func9, Yba.ntmps9
  go_wp2_with fail
  go_loopg [5] d (fun e k wr => wr = w ∧ ∃ kk : Int, k = .int .i64 kk ∧ Seek ks V L R 1 n K x e kk)
  case atStart => exact ⟨rfl, rt, rfl, hS0⟩
  case round =>
    clear hS0
    obtain ⟨rfl, kk, rfl, hS⟩ := hrel
    by_cases hk : kk < 0
    · obtain ⟨rfl, hno⟩ := hS.miss hk
      go_wp2_with fail
      go_ret
      exact ⟨rfl, Or.inr ⟨rfl, hno⟩⟩
    · obtain ⟨i, e, rfl, rfl, hi1, hi2, ⟨m, hm1, hm2⟩, hL, hR⟩ := hS.node hA hk
      have cv := h.val i hi2
      have cl := h.left i hi2
      have cr := h.right i hi2
      have HM : Hid (V i = ks m) := hm2
      clear hm2 hS
      by_cases h1 : x < V i
      · have HL := hL h1
        have hd1 : decide (x < V i) = true := by simp [h1]
        clear hL hR
        go_wp2_with fail
        refine (before_any x (V i) _).mono ?_
        rintro r w1 ⟨rfl, rfl⟩
        go_wp2_with fail
        go_roundg e
        case measure => omega
        case rel => exact ⟨rfl, L i, rfl, HL⟩
      · have hd1 : decide (x < V i) = false := by simp [h1]
        by_cases h2 : V i < x
        · have HR := hR h2
          have hd2 : decide (V i < x) = true := by simp [h2]
          clear hL hR
          go_wp2_with fail
          refine (before_any x (V i) _).mono ?_
          rintro r w1 ⟨rfl, rfl⟩
          go_wp2_with fail
          refine (before_any (V i) x _).mono ?_
          rintro r w2 ⟨rfl, rfl⟩
          go_wp2_with fail
          go_roundg e
          case measure => omega
          case rel => exact ⟨rfl, R i, rfl, HR⟩
        · have hd2 : decide (V i < x) = false := by simp [h2]
          have HV : Hid (V i = x) := by show V i = x; omega
          clear hL hR h1 h2
          go_wp2_with fail
          refine (before_any x (V i) _).mono ?_
          rintro r w1 ⟨rfl, rfl⟩
          go_wp2_with fail
          refine (before_any (V i) x _).mono ?_
          rintro r w2 ⟨rfl, rfl⟩
          go_wp2_with fail
          go_ret
          exact ⟨rfl, Or.inl ⟨i, rfl, hi1, hi2, HV.out, m, hm1, by rw [← HM.out]; exact HV.out⟩⟩
end Go.Proofs.Ybulkczzo
