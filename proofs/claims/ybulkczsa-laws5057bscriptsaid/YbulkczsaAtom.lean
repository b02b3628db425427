/-
  Contracts of sync/atomic's methods that seat b5057a's roads meet, over its program. Blocks by what they hold ('Blk').
-/
import Derived.Test.YbulkczsaProg
import Derived.WalkKit
import Derived.WalkSpells
import Derived.Deep.Light
namespace Go.Proofs.Ybulkczsa
open Go.RowKit

/-- block b is a plain block of cells c of type t, nothing of it frozen -/
def Blk (w : World) (b : Nat) (t : TypeId) (c : Array Value) : Prop := w.heap[b]? = some (.cells c t)

theorem Blk.cell {w : World} {b : Nat} {t : TypeId} {c : Array Value} (h : Blk w b t c) (i : Nat) : w.cell? ⟨b, i, none⟩ = c[i]? := by
  unfold Blk at h; unfold World.cell?; simp [h]
theorem Blk.frozen {w : World} {b : Nat} {t : TypeId} {c : Array Value} (h : Blk w b t c) (i : Nat) : w.frozen? ⟨b, i, none⟩ = false := by
  unfold Blk at h; unfold World.frozen?; simp [h]
theorem Blk.shape {w : World} {b : Nat} {t : TypeId} {c : Array Value} (h : Blk w b t c) : w.shape? b = some (t, c.size) := by
  unfold Blk at h; unfold World.shape?; simp [h]
theorem Blk.lt {w : World} {b : Nat} {t : TypeId} {c : Array Value} (h : Blk w b t c) : b < w.heap.size := by
  unfold Blk at h
  exact (Array.getElem?_eq_some_iff.1 h).1
theorem Blk.alloc {w : World} {b : Nat} {t : TypeId} {c : Array Value} (h : Blk w b t c) (o : Obj) : Blk (w.alloc o) b t c := by
  have hl := h.lt
  unfold Blk at *
  rw [Below.heap_alloc _ _ _ hl]; exact h
theorem Blk.new (w : World) (t : TypeId) (c : Array Value) : Blk (w.alloc (.cells c t)) w.heap.size t c := by
  unfold Blk World.alloc
  simp
theorem Blk.drew {w : World} {b : Nat} {t : TypeId} {c : Array Value} (h : Blk w b t c) : Blk w.drew b t c := h
theorem Blk.other {w : World} {b : Nat} {t : TypeId} {c : Array Value} (h : Blk w b t c) (b' i : Nat) (v : Value) (hne : b ≠ b') : Blk (w.setCell ⟨b', i, none⟩ v) b t c := by
  unfold Blk at *
  rw [Below.heap_setCell _ _ _ _ hne]; exact h
theorem Blk.same {w : World} {b : Nat} {t : TypeId} {c : Array Value} (h : Blk w b t c) (i : Nat) (v : Value) : Blk (w.setCell ⟨b, i, none⟩ v) b t (c.setIfInBounds i v) := by
  unfold Blk at *
  simp [World.setCell, Array.getElem?_modify, h]
theorem Blk.below {w w' : World} {B b : Nat} {t : TypeId} {c : Array Value} (h : Blk w b t c) (hb : Below B w w') (hl : b < B) : Blk w' b t c := by
  unfold Blk at *
  rw [hb.block b hl]; exact h

/-- sync/atomic.StoreT of whatever value -/
theorem run_call_store_any {P : Program} {f : FuncId} {fn : Func} (hf : P.funcs[f]? = some fn) (hname : (fn.name == "runtime.NumGoroutine") = false) (hb : fn.body.isNone = true) (hn : Extern.findNext fn = none)
    (he : Extern.find fn = some Extern.Atomic.storeT) {a : Addr} {y u : Value} {w : World} (hy : y.oneCell' = true) (hc : w.cell? a = some u) (hz : w.frozen? a = false) :
    (callFunc f #[.pointer (some a), y]).run P w = .ok (.value (.tuple #[])) (w.setCell a y) := by
  rw [run_callFunc_extern hf hname hb hn he]
  change (Sem.run P (do
    store (← asAddr (.pointer (some a))) y .atomic
    pure Extern.Atomic.none_) w).andThen _ = _
  simp [asAddr, hc, hz, run_store P w a y .atomic hy, Result.andThen, Extern.Atomic.none_]

/-- sync/atomic.LoadPointer -/
theorem run_call_load_ptr {P : Program} {f : FuncId} {fn : Func} (hf : P.funcs[f]? = some fn) (hname : (fn.name == "runtime.NumGoroutine") = false) (hb : fn.body.isNone = true) (hn : Extern.findNext fn = none)
    (he : Extern.find fn = some (Extern.Atomic.loadT .ptr)) {a : Addr} {p : Option Addr} {w : World} (hc : w.cell? a = some (.pointer p)) :
    (callFunc f #[.pointer (some a)]).run P w = .ok (.value (.pointer p)) w := by
  rw [run_callFunc_extern hf hname hb hn he]
  change (Sem.run P (do Extern.Atomic.read .ptr (← asAddr (.pointer (some a)))) w).andThen _ = _
  simp [Extern.Atomic.read, asAddr, hc, Result.andThen]

set_option maxHeartbeats 1000000 in
theorem u64Load_any (b o : Nat) (x : Int) (w : World) (hc : w.cell? ⟨b, o, none⟩ = some (.int .u64 x)) :
    Calls Yba.prog 14 #[.pointer (some ⟨b, o, none⟩)] w fun e w' => e = .returned (.int .u64 x) ∧ w' = w := by
  have hl := run_call_load (P := Yba.prog) Yba.func23 (by kernel_rfl) (by kernel_rfl) (by kernel_rfl) .u64 (by kernel_rfl) hc
  go_enter Yba.func14, Yba.ntmps14
  go_wp2
  go_ret
  exact ⟨rfl, rfl⟩

set_option maxHeartbeats 1000000 in
theorem u64Store_any (b o : Nat) (x : Int) (u : Value) (w : World) (hc : w.cell? ⟨b, o, none⟩ = some u) (hz : w.frozen? ⟨b, o, none⟩ = false) :
    Calls Yba.prog 16 #[.pointer (some ⟨b, o, none⟩), .int .u64 x] w fun e w' => e = .returned (.tuple #[]) ∧ w' = w.setCell ⟨b, o, none⟩ (.int .u64 x) := by
  have hl := run_call_store_any (P := Yba.prog) Yba.func25 (by kernel_rfl) (by kernel_rfl) (by kernel_rfl) (by kernel_rfl) (y := .int .u64 x) rfl hc hz
  go_enter Yba.func16, Yba.ntmps16
  go_wp2
  go_end0
  exact ⟨rfl, rfl⟩

theorem convert_nil (w : World) : (convert 32 28 (.pointer none)).run Yba.prog w = .ok (.pointer none) w := by kernel_rfl

theorem convert_kept (b : Nat) (c : Array Value) (w : World) (h : Blk w b 62 c) (hc : c.size = 11) : (convert 32 28 (.pointer (some ⟨b, 0, none⟩))).run Yba.prog w = .ok (.pointer (some ⟨b, 0, none⟩)) w := by
  have hs := h.shape
  rw [hc] at hs
  have hl : liesAt Yba.prog Yba.prog.depth 62 (11 / Yba.prog.cellsOf 62) 0 62 1 = true := by kernel_rfl
  have hi : (Yba.prog.info? 62).isSome = true := by kernel_rfl
  obtain ⟨i, hi⟩ := Option.isSome_iff_exists.1 hi
  obtain ⟨X, hX⟩ : ∃ X : Addr → Sem Value, (convert 32 28 (.pointer (some ⟨b, 0, none⟩))).run Yba.prog w = (do
      let a ← Conv.seenAt ⟨b, 0, none⟩
      if (← sizeOf 62) = 0 || (← variablesAt a 62 1) then pure (.pointer (some a)) else X a : Sem Value).run Yba.prog w := ⟨_, rfl⟩
  rw [hX]
  simp [Result.andThen, Conv.seenAt, viewAt, hs, sizeOf, typeInfo, variablesAt, hl, hi]

theorem convert_given (k : Nat) (v : Value) (w : World) (hk : w.cell? ⟨k, 0, none⟩ = some v) : (convert 28 32 (.pointer (some ⟨k, 0, none⟩))).run Yba.prog w = .ok (.pointer (some ⟨k, 0, none⟩)) w := by
  obtain ⟨e, n, hsh, hlt, hsp⟩ := World.shape?_of_cell? hk
  have hsz : (Yba.prog.info? 62).map (fun i => decide (i.size = 0)) = some false := by kernel_rfl
  obtain ⟨i, hi, hz0⟩ := Option.map_eq_some_iff.1 hsz
  have hz : i.size ≠ 0 := by simpa using hz0
  have hge : n ≠ 0 := by simp at hlt; omega
  obtain ⟨X, hX⟩ : ∃ X : Addr → Sem Value, (convert 28 32 (.pointer (some ⟨k, 0, none⟩))).run Yba.prog w = (do
      let s ← Conv.seenAt ⟨k, 0, none⟩
      let nothing := match ← cellsIn s.block with
        | some cells => s.off ≥ cells && s.spot.isNone
        | none => false
      if (← sizeOf 62) = 0 || nothing then X s else pure (.pointer (some s)) : Sem Value).run Yba.prog w := ⟨_, rfl⟩
  rw [hX]
  simp [Conv.seenAt, viewAt, cellsIn, sizeOf, typeInfo, hi, hz, hsh, hge, Result.andThen]

set_option maxHeartbeats 1000000 in
theorem ptrLoad_nil (b o : Nat) (w : World) (hc : w.cell? ⟨b, o, none⟩ = some (.pointer none)) :
    Calls Yba.prog 15 #[.pointer (some ⟨b, o, none⟩)] w fun e w' => e = .returned (.pointer none) ∧ w' = w := by
  have hl := run_call_load_ptr (P := Yba.prog) Yba.func24 (by kernel_rfl) (by kernel_rfl) (by kernel_rfl) (by kernel_rfl) hc
  have hv := convert_nil w
  go_enter Yba.func15, Yba.ntmps15
  go_wp2
  go_ret
  exact ⟨rfl, rfl⟩

set_option maxHeartbeats 1000000 in
theorem ptrLoad_some (b o k : Nat) (c : Array Value) (w : World) (hc : w.cell? ⟨b, o, none⟩ = some (.pointer (some ⟨k, 0, none⟩))) (hk : Blk w k 62 c) (hs : c.size = 11) :
    Calls Yba.prog 15 #[.pointer (some ⟨b, o, none⟩)] w fun e w' => e = .returned (.pointer (some ⟨k, 0, none⟩)) ∧ w' = w := by
  have hl := run_call_load_ptr (P := Yba.prog) Yba.func24 (by kernel_rfl) (by kernel_rfl) (by kernel_rfl) (by kernel_rfl) hc
  have hv := convert_kept k c w hk hs
  clear hk hs
  go_enter Yba.func15, Yba.ntmps15
  go_wp2
  go_ret
  exact ⟨rfl, rfl⟩

set_option maxHeartbeats 1000000 in
theorem ptrStore_any (b o k : Nat) (u v : Value) (w : World) (hc : w.cell? ⟨b, o, none⟩ = some u) (hz : w.frozen? ⟨b, o, none⟩ = false) (hk : w.cell? ⟨k, 0, none⟩ = some v) :
    Calls Yba.prog 18 #[.pointer (some ⟨b, o, none⟩), .pointer (some ⟨k, 0, none⟩)] w fun e w' => e = .returned (.tuple #[]) ∧ w' = w.setCell ⟨b, o, none⟩ (.pointer (some ⟨k, 0, none⟩)) := by
  have hl := run_call_store_any (P := Yba.prog) Yba.func26 (by kernel_rfl) (by kernel_rfl) (by kernel_rfl) (by kernel_rfl) (y := .pointer (some ⟨k, 0, none⟩)) rfl hc hz
  have hv := convert_given k v w hk
  go_enter Yba.func18, Yba.ntmps18
  go_wp2
  go_end0
  exact ⟨rfl, rfl⟩

set_option maxHeartbeats 1000000 in
theorem u64Add_any (b o : Nat) (x y : Int) (w : World) (hc : w.cell? ⟨b, o, none⟩ = some (.int .u64 x)) (hz : w.frozen? ⟨b, o, none⟩ = false)
    (h1 : 0 ≤ x + y) (h2 : x + y < 18446744073709551616) :
    Calls Yba.prog 22 #[.pointer (some ⟨b, o, none⟩), .int .u64 y] w fun e w' => e = .returned (.int .u64 (x + y)) ∧ w' = w.setCell ⟨b, o, none⟩ (.int .u64 (x + y)) := by
  have hs : (Op.intArith .add .u64 x y).run Yba.prog w = .ok (.int .u64 (x + y)) w := by
    have : (x + y) % 18446744073709551616 = x + y := Int.emod_eq_of_lt h1 h2
    simp [go_sem, IntKind.wrap, this]
    intro h; exact absurd h (by decide)
  have hl := run_call_add (P := Yba.prog) Yba.func30 (by kernel_rfl) (by kernel_rfl) (by kernel_rfl) .u64 (by kernel_rfl) hc hz hs
  clear hs h1 h2
  go_enter Yba.func22, Yba.ntmps22
  go_wp2
  go_ret
  exact ⟨rfl, rfl⟩

/-! ### the five scopes of zzs5057cscope -/
def secC (k : Int) : ByteArray := if k = 1 then ⟨#[98]⟩ else ⟨#[97]⟩
def dateC (k : Int) : ByteArray := if k = 2 then ⟨#[50, 48, 50, 52, 48, 49, 48, 50]⟩ else ⟨#[50, 48, 50, 52, 48, 49, 48, 49]⟩
def regC (k : Int) : ByteArray := if k = 3 then ⟨#[113]⟩ else ⟨#[114]⟩
def svcC (k : Int) : ByteArray := if k = 4 then ⟨#[116]⟩ else ⟨#[115]⟩
def scopeC (k : Int) : Array Value := #[.string (secC k), .string (dateC k), .string (regC k), .string (svcC k)]

set_option maxHeartbeats 1000000 in
theorem scopeC_any (k : Int) (w : World) :
    Calls Yba.prog 17 #[.int .i64 k] w fun e w' => e = .returned (.agg (scopeC k)) ∧ w' = w.alloc (.cells (scopeC k) 54) := by
  go_enter Yba.func17, Yba.ntmps17
  go_wp2
  all_goals
    go_light
    simp only [beq_iff_eq, beq_eq_false_iff_ne, ne_eq] at *
    refine bodyPost_ret (v := .agg (scopeC k)) (by simp [results, Yba.results17, go_sem, scopeC, secC, dateC, regC, svcC, *]) rfl ⟨rfl, ?_⟩
    simp [scopeC, secC, dateC, regC, svcC, *]

theorem scopeC_lit (k : Int) (w : World) :
    Calls Yba.prog 17 #[.int .i64 k] w fun e w' => e = .returned (.agg #[.string (secC k), .string (dateC k), .string (regC k), .string (svcC k)]) ∧
      w' = w.alloc (.cells #[.string (secC k), .string (dateC k), .string (regC k), .string (svcC k)] 54) := scopeC_any k w
end Go.Proofs.Ybulkczsa
