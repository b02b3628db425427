/-
  Contracts of zzs5071cqueues and zzs5071cbuild over seat b5071a's program.
-/
import Derived.Test.YbulkczzoMem
namespace Go.Proofs.Ybulkczzo
open Go.RowKit

/-- what zzs5071cqueues makes of the bytes: each modulo 64 -/
def qOf (z : Nat → Int) (i : Nat) : Int := z i % 64

/-- k of the queues written -/
def qTo (z : Nat → Int) (k : Nat) (i : Nat) : Int := if i < k then qOf z i else 0
theorem qTo_step (z : Nat → Int) (k : Nat) : upd (qTo z k) k (z k % 64) = qTo z (k + 1) := by
  funext i
  unfold upd qTo qOf
  by_cases e : i = k
  · subst e; rw [if_pos rfl, if_pos (by omega)]
  · rw [if_neg e]
    by_cases h : i < k
    · rw [if_pos h, if_pos (by omega)]
    · rw [if_neg h, if_neg (by omega)]

set_option maxRecDepth 100000 in
set_option maxHeartbeats 2000000 in
theorem queues_any (a : Option Addr) (len cap : Nat) (z : Nat → Int) (b off : Nat) (w : World) (hlen : len ≤ 1024)
    (hidx : ∀ k : Nat, k < len → ∀ w', (Instr.indexAt 23 (.slice a len cap) (.int .i64 (k : Int))).run Yba.prog w' = .ok (.pointer (some ⟨b, off + k, none⟩)) w')
    (hsl : ∀ k : Nat, k < len → b < w.heap.size ∧ w.cell? ⟨b, off + k, none⟩ = some (.int .u8 (z k)) ∧ 0 ≤ z k ∧ z k ≤ 255) :
    Calls Yba.prog 11 #[.slice a len cap] w fun e w' => ∃ (n c : Nat) (f : Nat → Int), e = .returned (.slice (some ⟨w.heap.size, 0, none⟩) n c) ∧ 1 ≤ n ∧ n ≤ c ∧ c ≤ 1025 ∧
      Row w' w.heap.size c f ∧ (∀ i, i < n → 0 ≤ f i ∧ f i ≤ 63) ∧ Below w.heap.size w w' := by
  have hmk := fun wx => make_ints 0 ((len : Int) + 1) wx (by omega) (by omega) (by omega)
  have hcast : ((len : Int) + 1).toNat = len + 1 := by omega
  have h00 : (0 : Int).toNat = 0 := rfl
  rw [hcast, h00] at hmk
  clear hcast h00
  have hb0 : Row (w.alloc (.cells (rowI .i64 (len + 1) (fun _ => 0)) 3)) w.heap.size (len + 1) (qTo z 0) := (Blk.new w 3 (rowI .i64 (len + 1) (fun _ => 0)))
  have hf0 : Below w.heap.size w (w.alloc (.cells (rowI .i64 (len + 1) (fun _ => 0)) 3)) := (Below.refl _ _).alloc (Nat.le_refl _) _
  go_enter Yba.func11, Yba.ntmps11
  go_wp2_with fail
  go_loopw [3, 12] (fun s i wr => ∃ k : Nat, k ≤ len ∧ i = .int .i64 k ∧ s = .slice (some ⟨w.heap.size, 0, none⟩) k (len + 1) ∧ Row wr w.heap.size (len + 1) (qTo z k) ∧ Below w.heap.size w wr) (fun _ i _ => len - (intOf i).toNat)
  case atStart => exact ⟨0, by omega, rfl, rfl, hb0, hf0⟩
  case round =>
    clear hb0 hf0 hmk
    obtain ⟨k, hk, rfl, rfl, hR, hF⟩ := hrel
    have hM := hR.lt
    by_cases hlt : k < len
    · obtain ⟨hbl, hc, h0, h1⟩ := hsl k hlt
      have hix := hidx k hlt
      have d0 : wr.cell? ⟨b, off + k, none⟩ = some (.int .u8 (z k)) := by rw [hF.cell hbl]; exact hc
      have cR := hR.cell k (by omega)
      have zR := hR.frozen k
      clear hc hidx hsl
      go_wp2_with fail
      go_roundw
      case rel =>
        refine ⟨k + 1, by omega, by go_num, rfl, ?_, (hF.setCell (Nat.le_refl _) _).alloc (by simp; omega) _⟩
        have := (hR.set k (z k % 64)).alloc (.cells #[.int .i64 (z k % 64)] 3)
        rw [qTo_step] at this; exact this
      case measure => simp [intOf]; omega
    · by_cases h0 : k = 0
      · have h0' : ((k : Int) == 0) = true := by simp [h0]
        have cR := hR.cell k (by omega)
        have zR := hR.frozen k
        have H0 : Hid (k = 0) := h0
        clear h0 hidx hsl
        go_wp2_with fail
        go_ret
        refine ⟨k + 1, len + 1, upd (qTo z k) k 1, rfl, by omega, by omega, by omega, (hR.set k 1).alloc _, fun i hi => ?_, (hF.setCell (Nat.le_refl _) _).alloc (by simp; omega) _⟩
        have := H0.out
        obtain rfl : i = k := by omega
        rw [upd_same]; omega
      · have h0' : ((k : Int) == 0) = false := by simp; omega
        have hq : ∀ i, i < k → 0 ≤ qTo z k i ∧ qTo z k i ≤ 63 := fun i hi => by
          unfold qTo qOf; rw [if_pos hi]; omega
        have HQ : Hid (∀ i, i < k → 0 ≤ qTo z k i ∧ qTo z k i ≤ 63) := hq
        clear hidx hsl hq
        go_wp2_with fail
        go_ret
        exact ⟨k, len + 1, qTo z k, rfl, by omega, by omega, by omega, hR, HQ.out, hF⟩

theorem maxTo_succ (f : Nat → Int) (k : Nat) : maxTo f (k + 1) = if maxTo f k < f k then f k else maxTo f k := rfl
theorem cnt_succ (f : Nat → Int) (k : Nat) : (fun i : Nat => cnt f (k + 1) i) = fun i : Nat => cnt f k i + if f k = (i : Int) then 1 else 0 := rfl

/-- one more counted -/
theorem cnt_step (f : Nat → Int) (k j : Nat) (h : f k = (j : Int)) : upd (fun i : Nat => cnt f k i) j (cnt f k j + 1) = fun i : Nat => cnt f (k + 1) i := by
  funext i
  unfold upd
  show _ = cnt f k i + if f k = (i : Int) then 1 else 0
  by_cases e : i = j
  · subst e; rw [if_pos rfl, if_pos h]
  · rw [if_neg e, if_neg (by rw [h]; omega)]; simp

set_option maxRecDepth 100000 in
set_option maxHeartbeats 2000000 in
theorem build_any (q n c : Nat) (f : Nat → Int) (w : World) (hR : Row w q c f) (hnc : n ≤ c) (hc : c ≤ 1025) (hf : ∀ i, i < n → 0 ≤ f i ∧ f i ≤ 63) :
    Calls Yba.prog 12 #[.slice (some ⟨q, 0, none⟩) n c] w fun e w' => ∃ m : Nat, (m : Int) = maxTo f n ∧ m ≤ 63 ∧
      e = .returned (.agg #[.slice (some ⟨w.heap.size + 1, 0, none⟩) (m + 2) (m + 2), .int .i64 (m : Int)]) ∧ Fr (fun _ => False) w w' ∧ w'.heap.size = w.heap.size + 1 + 1 ∧ Row w' (w.heap.size + 1) (m + 2) (fun i : Nat => cnt f n i) := by
  have hmax : ∀ k, k ≤ n → 0 ≤ maxTo f k ∧ maxTo f k ≤ 63 := fun k hk => ⟨maxTo_nonneg f k, maxTo_le f k 63 (by omega) (fun i hi => (hf i (by omega)).2)⟩
  have hq := hR.lt
  go_enter Yba.func12, Yba.ntmps12
  go_wp2_with fail
  go_loop [3, 11] (fun m i => ∃ k : Nat, k ≤ n ∧ i = .int .i64 k ∧ m = .int .i64 (maxTo f k)) (fun _ i => n - (intOf i).toNat)
  case atStart => exact ⟨0, by omega, rfl, rfl⟩
  case round =>
    obtain ⟨k, hk, rfl, rfl⟩ := hrel
    by_cases hlt : k < n
    · have cR := hR.cell k (by omega)
      have hms := maxTo_succ f k
      by_cases hl : maxTo f k < f k
      · rw [if_pos hl] at hms
        have HM : Hid (maxTo f (k + 1) = f k) := hms
        clear hms hmax hf
        go_wp2_with fail
        go_round
        case rel => exact ⟨k + 1, by omega, by go_num, by rw [HM.out]⟩
        case measure => simp [intOf]; omega
      · rw [if_neg hl] at hms
        have HM : Hid (maxTo f (k + 1) = maxTo f k) := hms
        clear hms hmax hf
        go_wp2_with fail
        go_round
        case rel => exact ⟨k + 1, by omega, by go_num, by rw [HM.out]⟩
        case measure => simp [intOf]; omega
    · obtain ⟨m, hm⟩ : ∃ m : Nat, maxTo f k = (m : Int) := ⟨(maxTo f k).toNat, by have := hmax k hk; omega⟩
      have hm63 : m ≤ 63 := by have := hmax k hk; omega
      have hkn : k = n := by omega
      have HM : Hid ((m : Int) = maxTo f n) := by rw [← hkn]; exact hm.symm
      have HL : Hid (∀ i, i < n → f i ≤ m) := fun i hi => by have := le_maxTo f n i hi; have := HM.out; omega
      have HF : Hid (∀ i, i < n → 0 ≤ f i ∧ f i ≤ 63) := hf
      have hmk := fun wx => make_ints ((m : Int) + 2) ((m : Int) + 2) wx (by omega) (by omega) (by omega)
      have hcast : ((m : Int) + 2).toNat = m + 2 := by omega
      rw [hcast] at hmk
      have hb0 : Blk ((w.alloc (.cells #[.slice none 0 0, .int .i64 0] 43)).alloc (.cells (rowI .i64 (m + 2) (fun _ => 0)) 3)) w.heap.size 43 #[.slice none 0 0, .int .i64 0] := (Blk.new _ _ _).alloc _
      have hr0 : Row ((w.alloc (.cells #[.slice none 0 0, .int .i64 0] 43)).alloc (.cells (rowI .i64 (m + 2) (fun _ => 0)) 3)) (w.heap.size + 1) (m + 2) (fun i : Nat => cnt f 0 i) := by
        have := Blk.new (w.alloc (.cells #[.slice none 0 0, .int .i64 0] 43)) 3 (rowI .i64 (m + 2) (fun _ => 0))
        rw [World.size_alloc] at this; exact this
      have hF0 : Fr (fun _ => False) w ((w.alloc (.cells #[.slice none 0 0, .int .i64 0] 43)).alloc (.cells (rowI .i64 (m + 2) (fun _ => 0)) 3)) := ((Fr.refl _ _).alloc _).alloc _
      clear hkn hmax hf hcast
      go_wp2_with fail
      go_loopw [25] (fun i wr => ∃ j : Nat, j ≤ n ∧ i = .int .i64 j ∧ wr.heap.size = w.heap.size + 1 + 1 ∧ Fr (fun _ => False) w wr ∧ Blk wr w.heap.size 43 #[.slice none 0 0, .int .i64 0] ∧ Row wr (w.heap.size + 1) (m + 2) (fun i : Nat => cnt f j i)) (fun i _ => n - (intOf i).toNat)
      case atStart => exact ⟨0, by omega, rfl, by simp, hF0, hb0, hr0⟩
      case round =>
        clear hF0 hb0 hr0 hmk hm
        obtain ⟨j, hj, rfl, hz, hF, hB, hC⟩ := hrel
        by_cases hlt2 : j < n
        · have cR := (hR.fr hF (fun h => h)).cell j (by omega)
          obtain ⟨v, hv⟩ : ∃ v : Nat, f j = (v : Int) := ⟨(f j).toNat, by have := HF.out j hlt2; omega⟩
          have hvm : v ≤ m := by have := HL.out j hlt2; omega
          have cC := hC.cell v (by omega)
          have zC := hC.frozen v
          have b0 := cnt_nonneg f j v
          have b1 := cnt_le f j v
          have HV : Hid (f j = (v : Int)) := hv
          rw [hv] at cR
          clear hv
          go_wp2_with fail
          go_roundw
          case rel =>
            refine ⟨j + 1, by omega, by go_num, by simp [hz], ?_, hB.other _ _ _ (by omega), ?_⟩
            · exact hF.setNew _ _ _ (by omega)
            · have := hC.set v (cnt f j v + 1)
              rw [cnt_step f j v HV.out] at this; exact this
          case measure => simp [intOf]; omega
        · have hjn : j = n := by omega
          have HC : Hid (Row wr (w.heap.size + 1) (m + 2) (fun i : Nat => cnt f n i)) := by rw [← hjn]; exact hC
          have g0 : wr.cell? ⟨w.heap.size, 0, none⟩ = some (.slice none 0 0) := hB.cell 0
          have g1 : wr.cell? ⟨w.heap.size, 1, none⟩ = some (.int .i64 0) := hB.cell 1
          have y0 := hB.frozen 0
          have y1 := hB.frozen 1
          clear hjn hC
          go_wp2_with fail
          refine bodyPost_ret (v := .agg #[.slice (some ⟨w.heap.size + 1, 0, none⟩) (m + 2) (m + 2), .int .i64 (m : Int)]) (by simp [results, Yba.results12, go_sem, g0, g1]) rfl ⟨m, HM.out, hm63, rfl, (hF.setNew _ _ _ (Nat.le_refl _)).setNew _ _ _ (Nat.le_refl _), by simp [hz], (HC.out.other _ _ _ (by omega)).other _ _ _ (by omega)⟩
end Go.Proofs.Ybulkczzo
