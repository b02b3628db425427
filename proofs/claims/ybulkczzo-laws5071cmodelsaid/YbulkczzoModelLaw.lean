/-
  The walk of LawS5071CModel over seat b5071a's program.
-/
import Derived.Test.YbulkczzoCount
import Derived.Test.YbulkczzoBuild
import Derived.Deep.DeepCutAuto
import Derived.Deep.CutBlock
namespace Go.Proofs.Ybulkczzo
open Go.RowKit

/-- the counts behind shrank are those of the list with that queue one shorter -/
theorem moved_cnt (f : Nat → Int) (n i v x : Nat) (hi : i < n) (hv : f i = (v : Int)) (hv1 : 1 ≤ v) : moved (fun i : Nat => cnt f n i) v (v - 1) x = cnt (upd f i ((v : Int) - 1)) n x := by
  rw [cnt_upd f n i _ _ hi, hv]
  unfold moved upd
  dsimp only
  by_cases e1 : x = v - 1
  · subst e1
    rw [if_pos rfl, if_neg (by omega), if_pos (by omega)]; omega
  · rw [if_neg e1]
    by_cases e2 : x = v
    · subst e2
      rw [if_pos rfl, if_pos rfl, if_neg (by omega)]; omega
    · rw [if_neg e2, if_neg (by omega), if_neg (by omega)]; omega

theorem model_longest (f : Nat → Int) (n i v : Nat) (m : Int) (hi : i < n) (hv : f i = (v : Int)) (hv1 : 1 ≤ v) (hm : m = maxTo f n) :
    shrunk (fun i : Nat => cnt f n i) v m = maxTo (upd f i ((v : Int) - 1)) n := by
  have h := max_shrank f n i hi (by omega)
  rw [hv] at h
  rw [h]
  unfold shrunk
  subst hm
  rfl

theorem model_counts (f : Nat → Int) (n i v m m' : Nat) (hi : i < n) (hv : f i = (v : Int)) (hv1 : 1 ≤ v) (hm : (m : Int) = maxTo f n) (hm' : (m' : Int) = maxTo (upd f i ((v : Int) - 1)) n) (x : Nat) :
    atF (m + 2) (moved (fun i : Nat => cnt f n i) v (v - 1)) x = atF (m' + 2) (fun j : Nat => cnt (upd f i ((v : Int) - 1)) n j) x := by
  have hle : m' ≤ m := by
    have := model_longest f n i v m hi hv hv1 hm
    unfold shrunk at this
    split at this <;> omega
  unfold atF
  by_cases h1 : x < m + 2
  · rw [if_pos h1, moved_cnt f n i v x hi hv hv1]
    by_cases h2 : x < m' + 2
    · rw [if_pos h2]
    · rw [if_neg h2]; exact cnt_above _ _ _ (by omega)
  · rw [if_neg h1, if_neg (by omega)]

set_option maxRecDepth 100000 in
set_option maxHeartbeats 2000000 in
theorem cmodel_walk (a : Option Addr) (len cap : Nat) (z : Nat → Int) (b off : Nat) (pick : Int) (w : World) (hlen : len ≤ 1024)
    (hidx : ∀ k : Nat, k < len → ∀ w', (Instr.indexAt 23 (.slice a len cap) (.int .i64 (k : Int))).run Yba.prog w' = .ok (.pointer (some ⟨b, off + k, none⟩)) w')
    (hsl : ∀ k : Nat, k < len → b < w.heap.size ∧ w.cell? ⟨b, off + k, none⟩ = some (.int .u8 (z k)) ∧ 0 ≤ z k ∧ z k ≤ 255) (hp0 : 0 ≤ pick) (hp1 : pick ≤ 65535) :
    Calls Yba.prog 5 #[.slice a len cap, .int .u16 pick] w fun e w' => e = .returned (.bool true) ∧ Below w.heap.size w w' := by
  go_enter Yba.func5, Yba.ntmps5
  go_wp2_with fail
  refine (queues_any a len cap z b off w hlen hidx hsl).mono ?_
  rintro e w1 ⟨n, c, f, rfl, hn1, hnc, hc, hR, hf, hb⟩
  obtain ⟨i, hi⟩ : ∃ i : Nat, pick % (n : Int) = (i : Int) := ⟨(pick % (n : Int)).toNat, by have := Int.emod_nonneg pick (show (n : Int) ≠ 0 by omega); omega⟩
  have hin : i < n := by have := Int.emod_lt_of_pos pick (show (0 : Int) < n by omega); omega
  have cR := hR.cell i (by omega)
  have zR := hR.frozen i
  clear hidx hsl
  go_upto_if 24 with fail
  go_cut [6] (fun s wx => s = .int .i64 (i : Int) ∧ ∃ g : Nat → Int, Row wx w.heap.size c g ∧ (∀ j, j < n → 0 ≤ g j ∧ g j ≤ 63) ∧ 1 ≤ g i ∧ Below w.heap.size w wx)
  case first =>
    have hi2 := hf i hin
    have HF : Hid (∀ j, j < n → 0 ≤ f j ∧ f j ≤ 63) := hf
    clear hf
    by_cases h0 : f i = 0
    · have h0' : (f i == 0) = true := by simp [h0]
      clear h0
      go_wp2_with fail
      go_meet
      case rel =>
        refine ⟨by rw [hi], upd f i 1, hR.set i 1, fun j hj => ?_, by rw [upd_same]; omega, hb.setCell (Nat.le_refl _) _⟩
        by_cases e : j = i
        · subst e; rw [upd_same]; omega
        · rw [upd_other _ _ _ _ e]; exact HF.out j hj
    · have h0' : (f i == 0) = false := by simp [h0]
      have h1 : 1 ≤ f i := by omega
      clear h0
      go_wp2_with fail
      go_meet
      case rel => exact ⟨by rw [hi], f, hR, HF.out, h1, hb⟩
  case rest =>
    clear hR hf hb cR zR hi f
    obtain ⟨rfl, f, hR, hf, hfi, hb⟩ := hcut
    have hif := hf i hin
    have HF : Hid (∀ j, j < n → 0 ≤ f j ∧ f j ≤ 63) := hf
    go_wp2_with fail
    refine (build_any w.heap.size n c f _ hR hnc hc hf).mono ?_
    rintro e w2 ⟨m, hm, hm63, rfl, hF2, hz2, hC2⟩
    clear hf
    have hR2 := hR.fr hF2 (fun h => h)
    obtain ⟨v, hv⟩ : ∃ v : Nat, f i = (v : Int) := ⟨(f i).toNat, by omega⟩
    have hvm : v ≤ m := by have := le_maxTo f n i hin; omega
    have hlt := hR.lt
    have HM : Hid ((m : Int) = maxTo f n) := hm
    have HV : Hid (f i = (v : Int)) := hv
    have cR : ∀ o, (w2.alloc o).cell? ⟨w.heap.size, i, none⟩ = some (.int .i64 (v : Int)) := fun o => by rw [(hR2.alloc o).cell i (by omega), hv]
    have hL3 : Len (w2.alloc (.cells #[.slice (some ⟨wc.heap.size + 1, 0, none⟩) (m + 2) (m + 2), .int .i64 (m : Int)] 43)) (wc.heap.size + 1 + 1) (wc.heap.size + 1) (m + 2) (fun i : Nat => cnt f n i) (m : Int) :=
      ⟨by have := Blk.new w2 43 #[.slice (some ⟨wc.heap.size + 1, 0, none⟩) (m + 2) (m + 2), .int .i64 (m : Int)]
          rw [hz2] at this; exact this, hC2.alloc _⟩
    have hF3 := hF2.alloc (.cells #[.slice (some ⟨wc.heap.size + 1, 0, none⟩) (m + 2) (m + 2), .int .i64 (m : Int)] 43)
    have hz3 : (w2.alloc (.cells #[.slice (some ⟨wc.heap.size + 1, 0, none⟩) (m + 2) (m + 2), .int .i64 (m : Int)] 43)).heap.size = wc.heap.size + 1 + 1 + 1 := by rw [World.size_alloc, hz2]
    have hv1 : 1 ≤ v := by omega
    clear hm hv hfi hif
    go_wp2_with fail
    refine (shrank_any _ _ _ v _ _ _ hL3 hv1 (by omega) (by omega) (fun j _ => by have := cnt_nonneg f n j; have := cnt_le f n j; omega) (by omega) (by omega)).mono ?_
    rintro e w4 ⟨rfl, hF4, hL4⟩
    have hR3 := hR2.alloc (.cells #[.slice (some ⟨wc.heap.size + 1, 0, none⟩) (m + 2) (m + 2), .int .i64 (m : Int)] 43)
    have hR4 : Row w4 w.heap.size c f := hR3.fr hF4 (by omega)
    have hb4 : Below w.heap.size w w4 := by
      have h1 := hF3.below w.heap.size (by omega) (fun _ h => h.elim)
      have h2 := hF4.below w.heap.size (by omega) (fun k h => by omega)
      exact (hb.trans h1).trans h2
    have hz4 := hF4.size
    rw [hz3] at hz4
    generalize wc.heap.size = B at hL4 hz4 hlt ⊢
    clear hF4 hR3 hL3 hF3 hz3 hR2 hF2 hC2 hz2 cR hR hb
    have c4 : w4.cell? ⟨w.heap.size, i, none⟩ = some (.int .i64 (v : Int)) := by rw [hR4.cell i (by omega), HV.out]
    have z4 := hR4.frozen i
    have hR5 := hR4.set i ((v : Int) - 1)
    have hL5 : Len (w4.setCell ⟨w.heap.size, i, none⟩ (.int .i64 ((v : Int) - 1))) (B + 1 + 1) (B + 1) (m + 2) (moved (fun i : Nat => cnt f n i) v (v - 1)) (shrunk (fun i : Nat => cnt f n i) v (m : Int)) := ⟨hL4.str.other _ _ _ (by omega), hL4.row.other _ _ _ (by omega)⟩
    have hb5 : Below w.heap.size w (w4.setCell ⟨w.heap.size, i, none⟩ (.int .i64 ((v : Int) - 1))) := hb4.setCell (Nat.le_refl _) _
    have hf5 : ∀ j, j < n → 0 ≤ upd f i ((v : Int) - 1) j ∧ upd f i ((v : Int) - 1) j ≤ 63 := fun j hj => by
      by_cases e : j = i
      · subst e; rw [upd_same]; omega
      · rw [upd_other _ _ _ _ e]; exact HF.out j hj
    have hz5 : (w4.setCell ⟨w.heap.size, i, none⟩ (.int .i64 ((v : Int) - 1))).heap.size = w4.heap.size := by simp
    clear hR4 hL4 hb4
    go_wp2_with fail
    refine (build_any w.heap.size n c _ _ hR5 hnc hc hf5).mono ?_
    rintro e w6 ⟨m', hm', hm63', rfl, hF6, hz6, hC6⟩
    rw [hz5] at hz6 hC6
    have hL6 : Len w6 (B + 1 + 1) (B + 1) (m + 2) (moved (fun i : Nat => cnt f n i) v (v - 1)) (shrunk (fun i : Nat => cnt f n i) v (m : Int)) := ⟨hL5.str.fr hF6 (fun h => h), hL5.row.fr hF6 (fun h => h)⟩
    have hs5 : w.heap.size ≤ (w4.setCell ⟨w.heap.size, i, none⟩ (.int .i64 ((v : Int) - 1))).heap.size := by rw [hz5]; omega
    have hb6 := hb5.trans (hF6.below w.heap.size hs5 (fun _ h => h.elim))
    have hlg : (shrunk (fun i : Nat => cnt f n i) v (m : Int) == (m' : Int)) = true := by
      rw [beq_iff_eq, model_longest f n i v m hin HV.out hv1 HM.out]; exact hm'.symm
    have HC : Hid (∀ x, atF (m + 2) (moved (fun i : Nat => cnt f n i) v (v - 1)) x = atF (m' + 2) (fun j : Nat => cnt (upd f i ((v : Int) - 1)) n j) x) := model_counts f n i v m m' hin HV.out hv1 HM.out hm'
    have a0 : ∀ o, (w6.alloc o).cell? ⟨B + 1 + 1, 0, none⟩ = some (.slice (some ⟨B + 1, 0, none⟩) (m + 2) (m + 2)) := fun o => (hL6.str.alloc o).cell 0
    have a1 : ∀ o, (w6.alloc o).cell? ⟨B + 1 + 1, 1, none⟩ = some (.int .i64 (shrunk (fun i : Nat => cnt f n i) v (m : Int))) := fun o => (hL6.str.alloc o).cell 1
    clear hm' hR5 hL5 hb5 hF6 c4 z4 hf5 hs5
    go_wp2_with fail
    refine (eq_true _ _ _ _ _ _ _ _ _ (hL6.row.alloc _) (hC6.alloc _) (by omega) (by omega) (fun x _ => HC.out x)).mono ?_
    rintro e w7 ⟨rfl, hw7⟩
    have hb7 : Below w.heap.size w w7 := by rw [hw7]; exact hb6.alloc (by omega) _
    clear hw7
    go_wp2_with fail
    go_ret
    exact ⟨rfl, hb7⟩
end Go.Proofs.Ybulkczzo
