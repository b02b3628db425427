/-
  The contract of (*keyTable).find over seat b5057a's program.
-/
import Derived.Test.YbulkczsaAtom
import Derived.Deep.QuietTactic
import Derived.BigQuiet
import Derived.Laws.StructEq
import Derived.LaidEqlPtr
namespace Go.Proofs.Ybulkczsa
open Go.RowKit

/-- from w to w' nothing has turned but blocks of which S speaks; new blocks may lie behind -/
structure Fr (S : Nat → Prop) (w w' : World) : Prop where
  os : w'.os = w.os
  tape : w'.tape = w.tape
  output : w'.output = w.output
  size : w.heap.size ≤ w'.heap.size
  block : ∀ k, k < w.heap.size → ¬ S k → w'.heap[k]? = w.heap[k]?

theorem Fr.refl (S : Nat → Prop) (w : World) : Fr S w w := ⟨rfl, rfl, rfl, Nat.le_refl _, fun _ _ _ => rfl⟩
theorem Fr.trans {S : Nat → Prop} {a b c : World} (h : Fr S a b) (k : Fr S b c) : Fr S a c :=
  ⟨k.os.trans h.os, k.tape.trans h.tape, k.output.trans h.output, Nat.le_trans h.size k.size, fun i hi hs => (k.block i (Nat.lt_of_lt_of_le hi h.size) hs).trans (h.block i hi hs)⟩
theorem Fr.mono {S S' : Nat → Prop} {a b : World} (h : Fr S a b) (hs : ∀ k, S k → S' k) : Fr S' a b :=
  ⟨h.os, h.tape, h.output, h.size, fun i hi hn => h.block i hi (fun g => hn (hs i g))⟩
theorem Fr.drew {S : Nat → Prop} {a b : World} (h : Fr S a b) : Fr S a b.drew := ⟨h.os, h.tape, h.output, h.size, h.block⟩
theorem Fr.drewN {S : Nat → Prop} {a b : World} (h : Fr S a b) (n : Nat) : Fr S a (b.drewN n) := ⟨h.os, h.tape, h.output, h.size, h.block⟩
theorem Fr.alloc {S : Nat → Prop} {a b : World} (h : Fr S a b) (o : Obj) : Fr S a (b.alloc o) :=
  h.trans ⟨rfl, rfl, rfl, by simp, fun k hk _ => Below.heap_alloc _ _ _ hk⟩
theorem Fr.setCell {S : Nat → Prop} {a b : World} (h : Fr S a b) (k i : Nat) (v : Value) (hs : S k) : Fr S a (b.setCell ⟨k, i, none⟩ v) :=
  h.trans ⟨rfl, rfl, rfl, by simp, fun j _ hn => Below.heap_setCell _ _ _ _ (fun e => hn (by subst e; exact hs))⟩
theorem Fr.below {S : Nat → Prop} {a b : World} (h : Fr S a b) (B : Nat) (hB : B ≤ a.heap.size) (hs : ∀ k, S k → B ≤ k) : Below B a b :=
  ⟨h.os, h.tape, h.output, h.size, fun k hk => h.block k (by omega) (fun g => by have := hs k g; omega)⟩
theorem Blk.fr {S : Nat → Prop} {w w' : World} {b : Nat} {t : TypeId} {c : Array Value} (h : Blk w b t c) (f : Fr S w w') (hn : ¬ S b) : Blk w' b t c := by
  have hl := h.lt
  unfold Blk at *
  rw [f.block b hl hn]; exact h

/-- a kept key: its block; its scope; what its field 'key' holds; its use mark -/
structure KK where
  b : Nat
  s0 : ByteArray
  s1 : ByteArray
  s2 : ByteArray
  s3 : ByteArray
  key : Value
  u : Int

def KK.cells (k : KK) : Array Value :=
  #[.string k.s0, .string k.s1, .string k.s2, .string k.s3, k.key, .pointer none, .int .u64 0, .pointer none, .int .u64 0, .nilFunc, .int .u64 k.u]

def ptrV : Option KK → Value
  | none => .pointer none
  | some k => .pointer (some ⟨k.b, 0, none⟩)

def tabCells (K : Nat → Option KK) (clk : Int) (st : Int) : Array Value :=
  ((List.range 16).map (fun i => ptrV (K i)) ++ ([.int .u64 clk, .int .i32 st, .int .u32 0] : List Value)).toArray

theorem tab_slot (K : Nat → Option KK) (clk st : Int) (i : Nat) (h : i < 16) : (tabCells K clk st)[i]? = some (ptrV (K i)) := by
  unfold tabCells
  simp [List.getElem?_append, h]
theorem tab_clk (K : Nat → Option KK) (clk st : Int) : (tabCells K clk st)[16]? = some (.int .u64 clk) := rfl
theorem tab_st (K : Nat → Option KK) (clk st : Int) : (tabCells K clk st)[17]? = some (.int .i32 st) := rfl

/-- the table at block T of the world w -/
structure Tab (w : World) (T : Nat) (K : Nat → Option KK) (clk st : Int) : Prop where
  tab : Blk w T 47 (tabCells K clk st)
  key : ∀ i, i < 16 → ∀ k, K i = some k → Blk w k.b 62 k.cells

theorem Tab.slot {w : World} {T : Nat} {K : Nat → Option KK} {clk st : Int} (h : Tab w T K clk st) (i : Nat) (hi : i < 16) : w.cell? ⟨T, i, none⟩ = some (ptrV (K i)) := by
  rw [h.tab.cell, tab_slot _ _ _ _ hi]
theorem Tab.clock {w : World} {T : Nat} {K : Nat → Option KK} {clk st : Int} (h : Tab w T K clk st) : w.cell? ⟨T, 16, none⟩ = some (.int .u64 clk) := by
  rw [h.tab.cell, tab_clk]
theorem Tab.fr {S : Nat → Prop} {w w' : World} {T : Nat} {K : Nat → Option KK} {clk st : Int} (h : Tab w T K clk st) (f : Fr S w w') (hn : ∀ k, k < w.heap.size → ¬ S k) : Tab w' T K clk st :=
  ⟨h.tab.fr f (hn _ h.tab.lt), fun i hi k hk => (h.key i hi k hk).fr f (hn _ (h.key i hi k hk).lt)⟩

theorem neq_same (a : Addr) (w : World) : (binOp .neq 28 (.pointer (some a)) (.pointer (some a))).run Yba.prog w = .ok (.bool false) w := by
  have hi : (Yba.prog.info? 62).isSome = true := by kernel_rfl
  obtain ⟨i, hi⟩ := Option.isSome_iff_exists.1 hi
  have h : ∀ d : Nat, (Op.equalIn (d + 1) 28 (.pointer (some a)) (.pointer (some a))).run Yba.prog w = .ok true w := fun d => by
    simp [Op.equalIn, run_underlying Yba.underlying28, sizeOf, typeInfo, hi, run_sameAddr_same]
  simp only [binOp]
  simp [Op.equal, Op.maxDepth, h 9999]

/-- '==' of two scopes. Not reducible. -/
def sameB (a0 a1 a2 a3 b0 b1 b2 b3 : ByteArray) : Bool := (a0.toList == b0.toList) && ((a1.toList == b1.toList) && ((a2.toList == b2.toList) && (a3.toList == b3.toList)))

theorem ba_toList_inj {a b : ByteArray} (h : a.toList = b.toList) : a = b := by
  rw [ByteArray.toList_eq, ByteArray.toList_eq] at h
  cases a; cases b
  simp only [ByteArray.mk.injEq]
  exact Array.toList_inj.mp h

theorem sameB_iff (a0 a1 a2 a3 b0 b1 b2 b3 : ByteArray) : sameB a0 a1 a2 a3 b0 b1 b2 b3 = true ↔ a0 = b0 ∧ a1 = b1 ∧ a2 = b2 ∧ a3 = b3 := by
  unfold sameB
  simp only [Bool.and_eq_true, beq_iff_eq]
  constructor
  · rintro ⟨h0, h1, h2, h3⟩
    exact ⟨ba_toList_inj h0, ba_toList_inj h1, ba_toList_inj h2, ba_toList_inj h3⟩
  · rintro ⟨rfl, rfl, rfl, rfl⟩; exact ⟨rfl, rfl, rfl, rfl⟩

theorem equalScope (a0 a1 a2 a3 b0 b1 b2 b3 : ByteArray) (w : World) :
    (Op.equalIn 10000 54 (.agg #[.string a0, .string a1, .string a2, .string a3]) (.agg #[.string b0, .string b1, .string b2, .string b3])).run Yba.prog w = .ok (sameB a0 a1 a2 a3 b0 b1 b2 b3) w := by
  rw [run_equalIn_struct _ 9999 54 _ _ (by kernel_rfl) (by kernel_rfl)]
  unfold sameB Program.fieldsOf
  rw [Yba.underlying54]
  have h9 : Yba.prog.underlying 9 = some .string := Yba.underlying9
  simp [Op.eqFields, go_sem, h9]
  by_cases e0 : a0.toList = b0.toList <;> by_cases e1 : a1.toList = b1.toList <;> by_cases e2 : a2.toList = b2.toList <;> by_cases e3 : a3.toList = b3.toList <;> simp [e0, e1, e2, e3]

theorem guardScope : Yba.prog.eqGuardType Yba.prog.depth 54 = false := by kernel_rfl

set_option maxRecDepth 100000 in
set_option maxHeartbeats 2000000 in
theorem find_miss (T : Nat) (K : Nat → Option KK) (clk st : Int) (s0 s1 s2 s3 : ByteArray) (w : World) (hT : Tab w T K clk st)
    (hno : ∀ i, i < 16 → ∀ k, K i = some k → ¬ (k.s0 = s0 ∧ k.s1 = s1 ∧ k.s2 = s2 ∧ k.s3 = s3)) :
    Calls Yba.prog 12 #[.pointer (some ⟨T, 0, none⟩), .agg #[.string s0, .string s1, .string s2, .string s3]] w fun e w' =>
      e = .returned (.pointer none) ∧ Fr (fun _ => False) w w' := by
  have hT0 : Tab (w.alloc (.cells #[.string s0, .string s1, .string s2, .string s3] 54)) T K clk st := hT.fr ((Fr.refl (fun _ => False) w).alloc _) (fun _ _ h => h)
  have hB0 := Blk.new w 54 #[.string s0, .string s1, .string s2, .string s3]
  have hF0 := (Fr.refl (fun _ => False) w).alloc (.cells #[.string s0, .string s1, .string s2, .string s3] 54)
  go_enter Yba.func12, Yba.ntmps12
  go_wp2_with fail
  refine (u64Load_any _ _ clk _ hT0.clock).mono ?_
  rintro e w' ⟨rfl, rfl⟩
  generalize hW : w.alloc (.cells #[.string s0, .string s1, .string s2, .string s3] 54) = W at hT0 hB0 hF0 ⊢
  clear hW
  go_wp2_with fail
  go_loopw [12] (fun i wr => ∃ k : Nat, k ≤ 16 ∧ i = .int .i64 k ∧ Fr (fun _ => False) W wr) (fun i _ => 16 - (intOf i).toNat)
  case atStart => exact ⟨0, by omega, rfl, Fr.refl _ _⟩
  case round =>
    obtain ⟨k, hk, rfl, hF⟩ := hrel
    have hTw := hT0.fr hF (fun _ _ h => h)
    have hBw := hB0.fr hF (fun h => h)
    by_cases hlt : k < 16
    · have hslot := hTw.slot k hlt
      cases hK : K k with
      | none =>
        rw [hK] at hslot
        have hslot' : wr.cell? ⟨T, k, none⟩ = some (.pointer none) := hslot
        clear hslot
        go_wp2_with fail
        refine (ptrLoad_nil _ _ _ hslot').mono ?_
        rintro e w' ⟨rfl, rfl⟩
        go_wp2_with fail
        go_quiet (fail)
        go_wp2_with fail
        go_roundw
        case rel => exact ⟨k + 1, by omega, by go_num, hF.drewN _⟩
        case measure => simp [intOf]; omega
      | some q =>
        rw [hK] at hslot
        have hslot' : wr.cell? ⟨T, k, none⟩ = some (.pointer (some ⟨q.b, 0, none⟩)) := hslot
        clear hslot
        have hkb := hTw.key k hlt q hK
        have c0 : wr.cell? ⟨q.b, 0, none⟩ = some (.string q.s0) := hkb.cell 0
        have c1 : wr.cell? ⟨q.b, 1, none⟩ = some (.string q.s1) := hkb.cell 1
        have c2 : wr.cell? ⟨q.b, 2, none⟩ = some (.string q.s2) := hkb.cell 2
        have c3 : wr.cell? ⟨q.b, 3, none⟩ = some (.string q.s3) := hkb.cell 3
        have b0 : wr.cell? ⟨w.heap.size, 0, none⟩ = some (.string s0) := hBw.cell 0
        have b1 : wr.cell? ⟨w.heap.size, 1, none⟩ = some (.string s1) := hBw.cell 1
        have b2 : wr.cell? ⟨w.heap.size, 2, none⟩ = some (.string s2) := hBw.cell 2
        have b3 : wr.cell? ⟨w.heap.size, 3, none⟩ = some (.string s3) := hBw.cell 3
        have hdf : sameB q.s0 q.s1 q.s2 q.s3 s0 s1 s2 s3 = false := by
          rw [Bool.eq_false_iff]; intro h; exact hno k hlt q hK ((sameB_iff ..).mp h)
        have hgd := guardScope
        have heq := equalScope q.s0 q.s1 q.s2 q.s3 s0 s1 s2 s3
        go_wp2_with fail
        refine (ptrLoad_some _ _ _ _ _ hslot' hkb rfl).mono ?_
        rintro e w' ⟨rfl, rfl⟩
        go_wp2_with fail
        go_quiet (fail)
        go_wp2_with fail
        go_roundw
        case rel => exact ⟨k + 1, by omega, by go_num, hF.drewN _⟩
        case measure => simp [intOf]; omega
    · go_wp2_with fail
      go_ret
      exact ⟨rfl, hF0.trans hF⟩

set_option maxRecDepth 100000 in
set_option maxHeartbeats 2000000 in
theorem find_hit (T : Nat) (K : Nat → Option KK) (clk st : Int) (s0 s1 s2 s3 : ByteArray) (w : World) (hT : Tab w T K clk st)
    (j : Nat) (p : KK) (hj : j < 16) (hp : K j = some p) (hps : p.s0 = s0 ∧ p.s1 = s1 ∧ p.s2 = s2 ∧ p.s3 = s3)
    (hno : ∀ i, i < j → ∀ k, K i = some k → ¬ (k.s0 = s0 ∧ k.s1 = s1 ∧ k.s2 = s2 ∧ k.s3 = s3)) :
    Calls Yba.prog 12 #[.pointer (some ⟨T, 0, none⟩), .agg #[.string s0, .string s1, .string s2, .string s3]] w fun e w' =>
      e = .returned (.pointer (some ⟨p.b, 0, none⟩)) ∧ Fr (fun b => b = p.b) w w' ∧ Blk w' p.b 62 ({ p with u := clk } : KK).cells := by
  have hT0 : Tab (w.alloc (.cells #[.string s0, .string s1, .string s2, .string s3] 54)) T K clk st := hT.fr ((Fr.refl (fun _ => False) w).alloc _) (fun _ _ h => h)
  have hB0 := Blk.new w 54 #[.string s0, .string s1, .string s2, .string s3]
  have hF0 := (Fr.refl (fun _ => False) w).alloc (.cells #[.string s0, .string s1, .string s2, .string s3] 54)
  go_enter Yba.func12, Yba.ntmps12
  go_wp2_with fail
  refine (u64Load_any _ _ clk _ hT0.clock).mono ?_
  rintro e w' ⟨rfl, rfl⟩
  generalize hW : w.alloc (.cells #[.string s0, .string s1, .string s2, .string s3] 54) = W at hT0 hB0 hF0 ⊢
  clear hW
  go_wp2_with fail
  go_loopw [12] (fun i wr => ∃ k : Nat, k ≤ j ∧ i = .int .i64 k ∧ Fr (fun _ => False) W wr) (fun i _ => 16 - (intOf i).toNat)
  case atStart => exact ⟨0, by omega, rfl, Fr.refl _ _⟩
  case round =>
    obtain ⟨k, hk, rfl, hF⟩ := hrel
    have hTw := hT0.fr hF (fun _ _ h => h)
    have hBw := hB0.fr hF (fun h => h)
    by_cases hlj : k < j
    · have hlt : k < 16 := by omega
      have hslot := hTw.slot k hlt
      cases hK : K k with
      | none =>
        rw [hK] at hslot
        have hslot' : wr.cell? ⟨T, k, none⟩ = some (.pointer none) := hslot
        clear hslot
        go_wp2_with fail
        refine (ptrLoad_nil _ _ _ hslot').mono ?_
        rintro e w' ⟨rfl, rfl⟩
        go_wp2_with fail
        go_quiet (fail)
        go_wp2_with fail
        go_roundw
        case rel => exact ⟨k + 1, by omega, by go_num, hF.drewN _⟩
        case measure => simp [intOf]; omega
      | some q =>
        rw [hK] at hslot
        have hslot' : wr.cell? ⟨T, k, none⟩ = some (.pointer (some ⟨q.b, 0, none⟩)) := hslot
        clear hslot
        have hkb := hTw.key k hlt q hK
        have c0 : wr.cell? ⟨q.b, 0, none⟩ = some (.string q.s0) := hkb.cell 0
        have c1 : wr.cell? ⟨q.b, 1, none⟩ = some (.string q.s1) := hkb.cell 1
        have c2 : wr.cell? ⟨q.b, 2, none⟩ = some (.string q.s2) := hkb.cell 2
        have c3 : wr.cell? ⟨q.b, 3, none⟩ = some (.string q.s3) := hkb.cell 3
        have b0 : wr.cell? ⟨w.heap.size, 0, none⟩ = some (.string s0) := hBw.cell 0
        have b1 : wr.cell? ⟨w.heap.size, 1, none⟩ = some (.string s1) := hBw.cell 1
        have b2 : wr.cell? ⟨w.heap.size, 2, none⟩ = some (.string s2) := hBw.cell 2
        have b3 : wr.cell? ⟨w.heap.size, 3, none⟩ = some (.string s3) := hBw.cell 3
        have hdf : sameB q.s0 q.s1 q.s2 q.s3 s0 s1 s2 s3 = false := by
          rw [Bool.eq_false_iff]; intro h; exact hno k hlj q hK ((sameB_iff ..).mp h)
        have hgd := guardScope
        have heq := equalScope q.s0 q.s1 q.s2 q.s3 s0 s1 s2 s3
        go_wp2_with fail
        refine (ptrLoad_some _ _ _ _ _ hslot' hkb rfl).mono ?_
        rintro e w' ⟨rfl, rfl⟩
        go_wp2_with fail
        go_quiet (fail)
        go_wp2_with fail
        go_roundw
        case rel => exact ⟨k + 1, by omega, by go_num, hF.drewN _⟩
        case measure => simp [intOf]; omega
    · obtain rfl : k = j := by omega
      have hslot := hTw.slot k hj
      rw [hp] at hslot
      have hslot' : wr.cell? ⟨T, k, none⟩ = some (.pointer (some ⟨p.b, 0, none⟩)) := hslot
      clear hslot
      have hkb := hTw.key k hj p hp
      have c0 : wr.cell? ⟨p.b, 0, none⟩ = some (.string p.s0) := hkb.cell 0
      have c1 : wr.cell? ⟨p.b, 1, none⟩ = some (.string p.s1) := hkb.cell 1
      have c2 : wr.cell? ⟨p.b, 2, none⟩ = some (.string p.s2) := hkb.cell 2
      have c3 : wr.cell? ⟨p.b, 3, none⟩ = some (.string p.s3) := hkb.cell 3
      have c10 : wr.cell? ⟨p.b, 10, none⟩ = some (.int .u64 p.u) := hkb.cell 10
      have z10 := hkb.frozen 10
      have b0 : wr.cell? ⟨w.heap.size, 0, none⟩ = some (.string s0) := hBw.cell 0
      have b1 : wr.cell? ⟨w.heap.size, 1, none⟩ = some (.string s1) := hBw.cell 1
      have b2 : wr.cell? ⟨w.heap.size, 2, none⟩ = some (.string s2) := hBw.cell 2
      have b3 : wr.cell? ⟨w.heap.size, 3, none⟩ = some (.string s3) := hBw.cell 3
      have hdf : sameB p.s0 p.s1 p.s2 p.s3 s0 s1 s2 s3 = true := (sameB_iff ..).mpr hps
      have hgd := guardScope
      have heq := equalScope p.s0 p.s1 p.s2 p.s3 s0 s1 s2 s3
      clear hps hno
      by_cases hu : p.u = clk
      · have hu' : (p.u != clk) = false := by simp [hu]
        have HU : Hid (p.u = clk) := hu
        clear hu
        go_wp2_with fail
        refine (ptrLoad_some _ _ _ _ _ hslot' hkb rfl).mono ?_
        rintro e w' ⟨rfl, rfl⟩
        go_wp2_with fail
        go_quiet (fail)
        go_wp2_with fail
        refine (u64Load_any _ _ p.u _ (by exact c10)).mono ?_
        rintro e w' ⟨rfl, rfl⟩
        go_wp2_with fail
        go_ret
        exact ⟨rfl, ((hF0.trans hF).drewN _).mono (fun _ h => h.elim), by rw [← HU.out]; exact hkb⟩
      · have hu' : (p.u != clk) = true := by simp [hu]
        clear hu
        go_wp2_with fail
        refine (ptrLoad_some _ _ _ _ _ hslot' hkb rfl).mono ?_
        rintro e w' ⟨rfl, rfl⟩
        go_wp2_with fail
        go_quiet (fail)
        go_wp2_with fail
        refine (u64Load_any _ _ p.u _ (by exact c10)).mono ?_
        rintro e w' ⟨rfl, rfl⟩
        go_wp2_with fail
        refine (u64Store_any _ _ clk (.int .u64 p.u) _ (by exact c10) (by exact z10)).mono ?_
        rintro e w' ⟨rfl, rfl⟩
        go_wp2_with fail
        go_ret
        exact ⟨rfl, (((hF0.trans hF).mono (fun _ h => h.elim)).drewN _).setCell _ _ _ rfl, hkb.same 10 _⟩
end Go.Proofs.Ybulkczsa
