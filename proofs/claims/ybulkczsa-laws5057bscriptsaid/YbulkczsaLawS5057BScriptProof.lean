/-
  THE PROOF OF 'Rows.LawS5057BScriptSaid' ('example.com/wildcard/wildcard.LawS5057BScript'). The frame is the guide's own way, at this function's number and types; the walk lies in YbulkczsaScriptLaw.
-/
import Derived.Test.YbulkczsaRows
import Derived.Test.YbulkczsaScriptLaw
import Derived.Test.YbulkczsaSteps
import Derived.WalkKit
import Derived.ProofKit
import Derived.OpenShut
import Derived.ChangeOld
import Derived.Below
namespace Go.Proofs.Ybulkczsa.lawS5057BScript
open Go.ChangeShapes Go.WideShapes Go.ChangeAt Go.RowKit
set_option linter.unusedVariables false

theorem own : ownKnob Yba.prog.godebug = none := by kernel_rfl
theorem laidOut : laidOutB Yba.prog = true := by kernel_rfl

set_option maxRecDepth 100000 in
set_option maxHeartbeats 1000000 in
theorem script_any (a : Option Addr) (len cap : Nat) (w : World) (b off : Nat) (OP SS : Nat → Int)
    (hidx : ∀ k : Nat, k < len → ∀ w', (Instr.indexAt 26 (.slice a len cap) (.int .i64 (k : Int))).run Yba.prog w' = .ok (.pointer (some ⟨b, off + k * 2, none⟩)) w')
    (hsl : ∀ k : Nat, k < len → b < w.heap.size ∧ w.cell? ⟨b, off + k * 2, none⟩ = some (.int .u8 (OP k)) ∧ w.cell? ⟨b, off + k * 2 + 1, none⟩ = some (.int .u8 (SS k)) ∧ 0 ≤ OP k ∧ OP k ≤ 255 ∧ 0 ≤ SS k ∧ SS k ≤ 255) :
    Calls Yba.prog 5 #[.slice a len cap] w fun e w' => e = .returned (.bool true) ∧ Below w.heap.size w w' := by
  by_cases hlen : len ≤ 1024
  · exact script_walk a len cap w b off OP SS hlen hidx hsl
  · clear hidx hsl
    have hbig : 1024 < len := by omega
    clear hlen
    go_enter Yba.func5, Yba.ntmps5
    go_wp2
    go_ret
    exact ⟨rfl, Below.refl _ _⟩

/-! ### THE ROW's STEP: WRITTEN OUT: LEAVE IT -/
set_option maxRecDepth 100000 in
theorem lifted (os : Os) (started : os.Started) (H : Type) (enc : TypeId × Value → H) :
    ReturnsInHanded {} Yba.checked os 5 .any (Rows.lawS5057BScriptSpec.pre6 enc Yba.prog Yba.f5 Rows.lawS5057BScriptRow.domain false) (Rows.lawS5057BScriptSpec.post enc Yba.prog Yba.f5 false true false false) := by
  refine returnsInHanded_of_change (C := Yba.checked) own started (by kernel_rfl) Yba.func5
    (ChangeSpec.witness6 (enc := enc) (C := Yba.checked) false ⟨#[], #[.slice none 0 0], []⟩ 8 (by kernel_rfl) (by kernel_rfl) (by kernel_rfl) (by kernel_rfl)) ?_
  intro W base args ds gs before hval0 hW hcnd _
  have hval : ∀ (j : Nat) t v, Yba.f5.params[j]? = some t → args[j]? = some v → Value.okWide Yba.prog W .any base t v := hval0
  have hW' := hW
  obtain ⟨p, q, hA0, hV, rfl, hfz, hnd⟩ := hW
  have hA : DataW.TrodAll enc Yba.prog W 0 (fun _ => true) true Yba.f5.params.toList args.toList ds p := hA0
  rw [Yba.params5] at hA hval
  obtain ⟨v0, vs0, d0, ds0, p0, q0, hargs, rfl, rfl, h0, r0⟩ := trodAll_cons hA
  obtain ⟨rfl, rfl, rfl⟩ := trodAll_nil r0
  obtain rfl : args = #[v0] := by cases args; simp_all
  obtain ⟨rfl, rfl⟩ := trodVars_none hV
  obtain ⟨a0, len0, cap0, rfl⟩ := okWide_slice Yba.underlying26 (hval 0 26 v0 rfl rfl)
  have k0 := h0
  have lt0 : ∀ x ∈ p0, x.block < W.heap.size := by obtain ⟨m, hm⟩ := k0; exact DataW.trod_lt m _ _ _ hm
  obtain ⟨b, off, OP, SS, hidx, hsl⟩ : ∃ (b off : Nat) (OP SS : Nat → Int),
      (∀ k : Nat, k < len0 → ∀ w', (Instr.indexAt 26 (.slice a0 len0 cap0) (.int .i64 (k : Int))).run Yba.prog w' = .ok (.pointer (some ⟨b, off + k * 2, none⟩)) w') ∧
      (∀ k : Nat, k < len0 → b < W.heap.size ∧ W.cell? ⟨b, off + k * 2, none⟩ = some (.int .u8 (OP k)) ∧ W.cell? ⟨b, off + k * 2 + 1, none⟩ = some (.int .u8 (SS k)) ∧
        0 ≤ OP k ∧ OP k ≤ 255 ∧ 0 ≤ SS k ∧ SS k ≤ 255) := by
    obtain ⟨fuel, hf⟩ := h0
    exact open_steps (by simpa [Value.cells] using hf)
  clear hA0 hval0
  refine (script_any a0 len0 cap0 W b off OP SS hidx hsl).mono fun e W' ⟨he, bel⟩ => ?_
  subst he
  exact ⟨_, rfl, _, _, _, [], _, [], hW', trodAll_mk1 (shut_bool Yba.underlying4 _), (trodAll_cons_mk (Below.trod laidOut (by kernel_rfl) (of_decide_eq_true (by kernel_rfl)) k0 bel lt0) trodAll_mk0), rfl, bel.frame _, fun h => by cases h⟩

theorem over : Rows.lawS5057BScriptRow.holds Yba.pinned (OpenSpec.ofChange Rows.lawS5057BScriptSpec) :=
  OpenClaim.holds_of_wide 5 Yba.f5 rfl rfl rfl rfl rfl rfl rfl ⟨rfl, rfl, rfl, rfl, rfl⟩ rfl rfl rfl rfl rfl (by kernel_rfl) Yba.func5 (by kernel_rfl)
    (of_decide_eq_true (by kernel_rfl)) (by unfold Func.isWrapper; first | (rw [if_pos (by decide +kernel)]; kernel_rfl) | (rw [if_neg (by decide +kernel)]; exact ⟨rfl, rfl⟩))
    (fun os started H enc _ => lifted os started H enc)

/-- ████ THE STATEMENT ████ -/
theorem proved : Rows.LawS5057BScriptSaid := over
#print axioms proved
end Go.Proofs.Ybulkczsa.lawS5057BScript
