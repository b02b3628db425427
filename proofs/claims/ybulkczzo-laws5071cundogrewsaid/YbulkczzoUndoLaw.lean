/-
  The walk of LawS5071CUndoGrew over seat b5071a's program.
-/
import Derived.Test.YbulkczzoCount
import Derived.Test.YbulkczzoBuild
namespace Go.Proofs.Ybulkczzo
open Go.RowKit

/-- the counts behind grew(v), then shrank(v + 1) -/
theorem moved_back (c : Nat → Int) (v x : Nat) : moved (moved c v (v + 1)) (v + 1) (v + 1 - 1) x = c x := by
  have e : v + 1 - 1 = v := by omega
  rw [e]
  unfold moved upd
  by_cases h1 : x = v
  · subst h1
    rw [if_pos rfl, if_neg (by omega), if_pos rfl]; omega
  · rw [if_neg h1]
    by_cases h2 : x = v + 1
    · subst h2; rw [if_pos rfl, if_pos rfl]; omega
    · rw [if_neg h2, if_neg h2, if_neg h1]

theorem undo_longest (f : Nat → Int) (n i v : Nat) (m : Int) (hi : i < n) (hv : f i = (v : Int)) (hm : m = maxTo f n) :
    shrunk (moved (fun j : Nat => cnt f n j) v (v + 1)) (v + 1) (if m < v + 1 then (v : Int) + 1 else m) = m := by
  have hle := le_maxTo f n i hi
  have hcv : moved (fun j : Nat => cnt f n j) v (v + 1) (v + 1) - 1 = cnt f n ((v : Int) + 1) := by
    unfold moved
    rw [upd_same]
    show cnt f n ((v + 1 : Nat) : Int) + 1 - 1 = _
    have e : ((v + 1 : Nat) : Int) = (v : Int) + 1 := by omega
    rw [e]; omega
  unfold shrunk
  rw [hcv]
  by_cases h : m < v + 1
  · rw [if_pos h]
    have hz := cnt_above f n ((v : Int) + 1) (by omega)
    rw [if_pos ⟨by omega, hz⟩]; omega
  · rw [if_neg h]
    by_cases e : ((v + 1 : Nat) : Int) = m
    · have hp := cnt_max_pos f n (by omega)
      have e2 : (v : Int) + 1 = maxTo f n := by omega
      rw [e2]
      rw [if_neg (fun g => hp g.2)]
    · rw [if_neg (fun g => e g.1)]

set_option maxRecDepth 100000 in
set_option maxHeartbeats 2000000 in
theorem undo_walk (a : Option Addr) (len cap : Nat) (z : Nat → Int) (b off : Nat) (pick : Int) (w : World) (hlen : len ≤ 1024)
    (hidx : ∀ k : Nat, k < len → ∀ w', (Instr.indexAt 23 (.slice a len cap) (.int .i64 (k : Int))).run Yba.prog w' = .ok (.pointer (some ⟨b, off + k, none⟩)) w')
    (hsl : ∀ k : Nat, k < len → b < w.heap.size ∧ w.cell? ⟨b, off + k, none⟩ = some (.int .u8 (z k)) ∧ 0 ≤ z k ∧ z k ≤ 255) (hp0 : 0 ≤ pick) (hp1 : pick ≤ 65535) :
    Calls Yba.prog 6 #[.slice a len cap, .int .u16 pick] w fun e w' => e = .returned (.bool true) ∧ Below w.heap.size w w' := by
  go_enter Yba.func6, Yba.ntmps6
  go_wp2_with fail
  refine (queues_any a len cap z b off w hlen hidx hsl).mono ?_
  rintro e w1 ⟨n, c, f, rfl, hn1, hnc, hc, hR, hf, hb⟩
  obtain ⟨i, hi⟩ : ∃ i : Nat, pick % (n : Int) = (i : Int) := ⟨(pick % (n : Int)).toNat, by have := Int.emod_nonneg pick (show (n : Int) ≠ 0 by omega); omega⟩
  have hin : i < n := by have := Int.emod_lt_of_pos pick (show (0 : Int) < n by omega); omega
  clear hidx hsl
  have hif := hf i hin
  obtain ⟨v, hv⟩ : ∃ v : Nat, f i = (v : Int) := ⟨(f i).toNat, by omega⟩
  have HV : Hid (f i = (v : Int)) := hv
  have HF : Hid (∀ j, j < n → 0 ≤ f j ∧ f j ≤ 63) := hf
  clear hv hif
  go_wp2_with fail
  refine (build_any w.heap.size n c f _ hR hnc hc hf).mono ?_
  rintro e w2 ⟨m, hm, hm63, rfl, hF2, hz2, hC2⟩
  clear hf
  have hR2 := hR.fr hF2 (fun h => h)
  have hvm : v ≤ m := by have := le_maxTo f n i hin; have := HV.out; omega
  have HM : Hid ((m : Int) = maxTo f n) := hm
  have hlt := hR.lt
  have hL3 : Len (w2.alloc (.cells #[.slice (some ⟨w1.heap.size + 1, 0, none⟩) (m + 2) (m + 2), .int .i64 (m : Int)] 43)) (w1.heap.size + 1 + 1) (w1.heap.size + 1) (m + 2) (fun i : Nat => cnt f n i) (m : Int) :=
    ⟨by have := Blk.new w2 43 #[.slice (some ⟨w1.heap.size + 1, 0, none⟩) (m + 2) (m + 2), .int .i64 (m : Int)]
        rw [hz2] at this; exact this, hC2.alloc _⟩
  have hb3 : Below w.heap.size w (w2.alloc (.cells #[.slice (some ⟨w1.heap.size + 1, 0, none⟩) (m + 2) (m + 2), .int .i64 (m : Int)] 43)) := hb.trans ((hF2.alloc _).below w.heap.size (by omega) (fun _ h => h.elim))
  have hz3 : (w2.alloc (.cells #[.slice (some ⟨w1.heap.size + 1, 0, none⟩) (m + 2) (m + 2), .int .i64 (m : Int)] 43)).heap.size = w1.heap.size + 1 + 1 + 1 := by rw [World.size_alloc, hz2]
  have hR3 := hR2.alloc (.cells #[.slice (some ⟨w1.heap.size + 1, 0, none⟩) (m + 2) (m + 2), .int .i64 (m : Int)] 43)
  clear hm hR2 hC2 hF2 hR hb
  go_wp2_with fail
  refine (build_any w.heap.size n c f _ hR3 hnc hc HF.out).mono ?_
  rintro e w4 ⟨m', hm', hm63', rfl, hF4, hz4, hC4⟩
  rw [hz3] at hz4 hC4
  have hmm : m' = m := by have := HM.out; omega
  subst hmm
  clear hm' hm63'
  have hR4 := hR3.fr hF4 (fun h => h)
  have hL4 : Len w4 (w1.heap.size + 1 + 1) (w1.heap.size + 1) (m' + 2) (fun i : Nat => cnt f n i) (m' : Int) := ⟨hL3.str.fr hF4 (fun h => h), hL3.row.fr hF4 (fun h => h)⟩
  have hb4 := hb3.trans (hF4.below w.heap.size (by rw [hz3]; omega) (fun _ h => h.elim))
  have hz3' : (w2.alloc (.cells #[.slice (some ⟨w1.heap.size + 1, 0, none⟩) (m' + 2) (m' + 2), .int .i64 (m' : Int)] 43)).heap.size = w1.heap.size + 1 + 1 + 1 := hz3
  clear hF4 hL3 hb3 hR3
  generalize w1.heap.size = B at hL4 hz4 hC4 hlt hz3 hz3' ⊢
  have hL5 := hL4
  have cR : ∀ o, (w4.alloc o).cell? ⟨w.heap.size, i, none⟩ = some (.int .i64 (v : Int)) := fun o => by rw [(hR4.alloc o).cell i (by omega), HV.out]
  have hB5 : Blk (w4.alloc (.cells #[.slice (some ⟨B + 1 + 1 + 1 + 1, 0, none⟩) (m' + 2) (m' + 2), .int .i64 (m' : Int)] 43)) (B + 1 + 1 + 1 + 1 + 1) 43 #[.slice (some ⟨B + 1 + 1 + 1 + 1, 0, none⟩) (m' + 2) (m' + 2), .int .i64 (m' : Int)] := by
    have := Blk.new w4 43 #[.slice (some ⟨B + 1 + 1 + 1 + 1, 0, none⟩) (m' + 2) (m' + 2), .int .i64 (m' : Int)]
    rw [hz4] at this; exact this
  have hL6 : Len (w4.alloc (.cells #[.slice (some ⟨B + 1 + 1 + 1 + 1, 0, none⟩) (m' + 2) (m' + 2), .int .i64 (m' : Int)] 43)) (B + 1 + 1) (B + 1) (m' + 2) (fun i : Nat => cnt f n i) (m' : Int) := ⟨hL4.str.alloc _, hL4.row.alloc _⟩
  have hC6 := hC4.alloc (.cells #[.slice (some ⟨B + 1 + 1 + 1 + 1, 0, none⟩) (m' + 2) (m' + 2), .int .i64 (m' : Int)] 43)
  have hb6 : Below w.heap.size w (w4.alloc (.cells #[.slice (some ⟨B + 1 + 1 + 1 + 1, 0, none⟩) (m' + 2) (m' + 2), .int .i64 (m' : Int)] 43)) := hb4.alloc (by omega) _
  have hs6 : (w4.alloc (.cells #[.slice (some ⟨B + 1 + 1 + 1 + 1, 0, none⟩) (m' + 2) (m' + 2), .int .i64 (m' : Int)] 43)).heap.size = B + 1 + 1 + 1 + 1 + 1 + 1 := by rw [World.size_alloc, hz4]
  clear hL4 hL5 hC4 hb4 hR4
  have hcb : ∀ j, j < m' + 2 → -100000 ≤ cnt f n j ∧ cnt f n j ≤ 100000 := fun j _ => by have := cnt_nonneg f n j; have := cnt_le f n j; omega
  go_wp2_with fail
  refine (grew_any _ _ _ v _ _ _ hL6 (by omega) (by omega) hcb).mono ?_
  rintro e w7 ⟨rfl, hF7, hL7⟩
  have hB7 := hB5.fr hF7 (by omega)
  have hC7 := hC6.fr hF7 (by omega)
  have hb7 := hb6.trans (hF7.below w.heap.size (by rw [hs6]; omega) (fun k h => by omega))
  have hs7 := hF7.size
  rw [hs6] at hs7
  have hsh := shrank_any (B + 1 + 1) (B + 1) (m' + 2) (v + 1) _ _ w7 hL7 (by omega) (by omega) (by omega) (fun j hj => by
    have h1 := hcb j hj
    have h2 := hcb v (by omega)
    have h3 := hcb (v + 1) (by omega)
    have g1 := cnt_nonneg f n j; have g2 := cnt_le f n j
    have g3 := cnt_nonneg f n v; have g4 := cnt_le f n v
    have g5 := cnt_nonneg f n ((v + 1 : Nat) : Int); have g6 := cnt_le f n ((v + 1 : Nat) : Int)
    unfold moved upd
    dsimp only
    split
    · omega
    · split <;> omega) (by split <;> omega) (by split <;> omega)
  rw [show ((v + 1 : Nat) : Int) = (v : Int) + 1 from by omega, undo_longest f n i v (m' : Int) hin HV.out HM.out] at hsh
  clear hF7 hB5 hC6 hb6 hL6 hcb hL7 cR
  go_wp2_with fail
  refine hsh.mono ?_
  rintro e w8 ⟨rfl, hF8, hL8⟩
  have hB8 := hB7.fr hF8 (by omega)
  have hC8 := hC7.fr hF8 (by omega)
  have hb8 := hb7.trans (hF8.below w.heap.size (by omega) (fun k h => by omega))
  have hR8 : Row w8 (B + 1) (m' + 2) (fun j : Nat => cnt f n j) := hL8.row.congr (fun j _ => moved_back _ v j)
  have x0 : w8.cell? ⟨B + 1 + 1, 0, none⟩ = some (.slice (some ⟨B + 1, 0, none⟩) (m' + 2) (m' + 2)) := hL8.str.cell 0
  have x1 : w8.cell? ⟨B + 1 + 1, 1, none⟩ = some (.int .i64 (m' : Int)) := hL8.str.cell 1
  have y0 : w8.cell? ⟨B + 1 + 1 + 1 + 1 + 1, 0, none⟩ = some (.slice (some ⟨B + 1 + 1 + 1 + 1, 0, none⟩) (m' + 2) (m' + 2)) := hB8.cell 0
  have y1 : w8.cell? ⟨B + 1 + 1 + 1 + 1 + 1, 1, none⟩ = some (.int .i64 (m' : Int)) := hB8.cell 1
  clear hsh hF8 hL8 hB7 hC7 hb7
  go_wp2_with fail
  refine (eq_true _ _ _ _ _ _ _ _ _ hR8 hC8 (by omega) (by omega) (fun x _ => rfl)).mono ?_
  rintro e w9 ⟨rfl, rfl⟩
  go_wp2_with fail
  go_ret
  exact ⟨rfl, hb8⟩
end Go.Proofs.Ybulkczzo
