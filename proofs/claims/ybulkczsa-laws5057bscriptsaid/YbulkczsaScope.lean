/-
  The contract of zzs5057bscope over seat b5057a's program.
-/
import Derived.Test.YbulkczsaProg
import Derived.WalkKit
import Derived.WalkSpells
namespace Go.Proofs.Ybulkczsa
open Go.RowKit

def svcB (s : Int) : ByteArray := ⟨#[UInt8.ofNat (97 + s.toNat)]⟩
def secB : ByteArray := ⟨#[115]⟩
def dateB : ByteArray := ⟨#[50, 48, 50, 52, 48, 49, 48, 49]⟩
def regB : ByteArray := ⟨#[114]⟩

theorem conv_rune (s : Int) (h0 : 0 ≤ s) (h1 : s < 24) (w : World) : (convert 21 9 (.int .i32 (97 + s))).run Yba.prog w = .ok (.string (svcB s)) w := by
  have h : s = 0 ∨ s = 1 ∨ s = 2 ∨ s = 3 ∨ s = 4 ∨ s = 5 ∨ s = 6 ∨ s = 7 ∨ s = 8 ∨ s = 9 ∨ s = 10 ∨ s = 11 ∨ s = 12 ∨ s = 13 ∨ s = 14 ∨ s = 15 ∨ s = 16 ∨ s = 17 ∨ s = 18 ∨ s = 19 ∨ s = 20 ∨ s = 21 ∨ s = 22 ∨ s = 23 := by omega
  rcases h with rfl | rfl | rfl | rfl | rfl | rfl | rfl | rfl | rfl | rfl | rfl | rfl | rfl | rfl | rfl | rfl | rfl | rfl | rfl | rfl | rfl | rfl | rfl | rfl <;> (show _ = _; kernel_rfl)

theorem svcB_inj (s t : Int) (h0 : 0 ≤ s) (h1 : s < 24) (g0 : 0 ≤ t) (g1 : t < 24) (h : svcB s = svcB t) : s = t := by
  unfold svcB at h
  simp only [ByteArray.mk.injEq] at h
  have h2 := congrArg (fun a : Array UInt8 => (a.toList.map UInt8.toNat)) h
  simp at h2
  omega

set_option maxRecDepth 100000 in
set_option maxHeartbeats 1000000 in
theorem scopeB_any (s : Int) (w : World) (h0 : 0 ≤ s) (h1 : s < 24) :
    Calls Yba.prog 11 #[.int .i64 s] w fun e w' => e = .returned (.agg #[.string secB, .string dateB, .string regB, .string (svcB s)]) ∧
      w' = w.alloc (.cells #[.string secB, .string dateB, .string regB, .string (svcB s)] 54) := by
  have hcv := conv_rune s h0 h1
  go_enter Yba.func11, Yba.ntmps11
  go_wp2
  refine bodyPost_ret (v := .agg #[.string secB, .string dateB, .string regB, .string (svcB s)]) (by simp [results, Yba.results11, go_sem, secB, dateB, regB]) rfl ⟨rfl, ?_⟩
  simp [secB, dateB, regB]
end Go.Proofs.Ybulkczsa
