/-
  LawS5071AFindsEach's Go text returns true, over seat b5071a's program.
-/
import Derived.Test.YbulkczzoMake
import Derived.Test.YbulkczzoBytes
namespace Go.Proofs.Ybulkczzo
open Go.RowKit

set_option maxRecDepth 100000 in
set_option maxHeartbeats 4000000 in
theorem each_true (a0 : Option Addr) (len0 cap0 : Nat) (z0 : List Int) (sa : Option Addr) (sl sc sb so : Nat) (z : Nat → Int) (dec : Int) (w : World)
    (h0 : (a0 = none ∧ len0 = 0 ∧ cap0 = 0 ∧ z0 = []) ∨ ∃ x, a0 = some x ∧ len0 ≤ cap0 ∧ cap0 ≤ maxLen ∧ z0.length = cap0 ∧ (∀ i, i < z0.length → w.cell? (x.add i) = some (.int .i64 (z0.getD i 0))) ∧ ∀ n ∈ z0, (Lit.int .i64 n).wf = true)
    (sidx : ∀ k : Nat, k < sl → ∀ w', (Instr.indexAt 23 (.slice sa sl sc) (.int .i64 (k : Int))).run Yba.prog w' = .ok (.pointer (some ⟨sb, so + k, none⟩)) w')
    (scell : ∀ k : Nat, k < sl → sb < w.heap.size ∧ w.cell? ⟨sb, so + k, none⟩ = some (.int .u8 (z k)) ∧ 0 ≤ z k ∧ z k ≤ 255) :
    Calls Yba.prog 4 #[.slice a0 len0 cap0, .slice sa sl sc, .int .i64 dec] w fun e w' => e = .returned (.bool true) ∧ Below w.heap.size w w' := by
  have SI := hide sidx
  have SC := hide scell
  have H0 := hide h0
  clear sidx scell h0
  by_cases hl0 : len0 ≤ 1024
  · by_cases hsl : sl ≤ 1024
    · go_enter Yba.func4, Yba.ntmps4
      go_wp2_with fail
      refine (make_any a0 len0 cap0 z0 sa sl sc sb so z dec w hl0 hsl H0.out SI.out SC.out).mono ?_
      rintro e w1 ⟨hB1, zs, v, B, g, cap, V, L, R, rt, rfl, hk1, hz, hA, ho1, hg1, ht⟩
      clear H0 SI SC
      obtain ⟨a4, c4, rfl⟩ := hk1.slice
      have HA := hide hA
      have HT := hide ht
      have HK1 := hide hk1
      have HO1 := hide ho1
      clear hA ht hk1 ho1
      go_upto_region 4 with fail
      have st2 := Blk.new w1 29 #[.slice (some ⟨g, 0, none⟩) (1 + zs.length) cap, .int .i64 rt, .int .i64 (-1), .int .u64 0]
      have HN : Hid (Nd (w1.alloc (.cells #[.slice (some ⟨g, 0, none⟩) (1 + zs.length) cap, .int .i64 rt, .int .i64 (-1), .int .u64 0] 29)) B w1.heap.size g cap (1 + zs.length) V L R rt) := ⟨st2, HO1.out.alloc _⟩
      have HK2 : KRow (w1.alloc (.cells #[.slice (some ⟨g, 0, none⟩) (1 + zs.length) cap, .int .i64 rt, .int .i64 (-1), .int .u64 0] 29)) w.heap.size (.slice a4 zs.length c4) zs := World.ownsRow.alloc HK1.out _
      have hB2 := hB1.alloc hB1.size (.cells #[.slice (some ⟨g, 0, none⟩) (1 + zs.length) cap, .int .i64 rt, .int .i64 (-1), .int .u64 0] 29)
      generalize (w1.alloc (.cells #[.slice (some ⟨g, 0, none⟩) (1 + zs.length) cap, .int .i64 rt, .int .i64 (-1), .int .u64 0] 29)) = w2 at *
      generalize w1.heap.size = T at *
      obtain ⟨kb, _, kix, kcl⟩ := HK2.index
      have KX := hide kix
      have KC := hide kcl
      have s0 : w2.cell? ⟨T, 0, none⟩ = some (.slice (some ⟨g, 0, none⟩) (1 + zs.length) cap) := st2.cell 0
      clear st2 HK1 HO1 HK2 hB1 hg1 kix kcl
      go_wp2_with fail
      go_loopg [29] zs.length (fun m iv wr => wr = w2 ∧ ∃ i : Nat, iv = .int .i64 (i : Int) ∧ i ≤ zs.length ∧ m = zs.length - i)
      case atStart => exact ⟨rfl, 0, rfl, by omega, by omega⟩
      case round =>
        obtain ⟨rfl, i, rfl, hi, rfl⟩ := hrel
        by_cases hlt : i < zs.length
        · have hix := KX.out i hlt
          have hcx := KC.out i hlt
          rw [Nat.zero_add] at hcx
          simp only [Nat.zero_add] at hix
          generalize hx : zs.getD i 0 = x at hcx
          have HX := hide hx
          clear hx
          go_wp2_with fail
          refine (find_any B T g cap (1 + zs.length) zs.length zs.length _ V L R rt x _ HN.out (by omega) HA.out HT.out).mono ?_
          rintro e w3 ⟨rfl, h | h⟩
          · obtain ⟨k, rfl, hk1, hk2, hk3, _⟩ := h
            have cv := HN.out.val k hk2
            rw [hk3] at cv
            clear hk3
            go_wp2_with fail
            go_roundg (zs.length - (i + 1))
            case measure => omega
            case rel => exact ⟨rfl, i + 1, by go_num, by omega, rfl⟩
          · exact absurd HX.out (h.2 i hlt)
        · go_wp2_with fail
          go_ret
          exact ⟨rfl, hB2⟩
    · go_enter Yba.func4, Yba.ntmps4
      go_wp2_with fail
      go_ret
      exact ⟨rfl, Below.refl _ _⟩
  · go_enter Yba.func4, Yba.ntmps4
    go_wp2_with fail
    go_ret
    exact ⟨rfl, Below.refl _ _⟩
end Go.Proofs.Ybulkczzo
