/-
  LawS5071AFinds's Go text returns true, over seat b5071a's program.
-/
import Derived.Test.YbulkczzoSame
import Derived.Test.YbulkczzoBytes
namespace Go.Proofs.Ybulkczzo
open Go.RowKit

set_option maxRecDepth 100000 in
set_option maxHeartbeats 4000000 in
theorem finds_true (a0 : Option Addr) (len0 cap0 : Nat) (z0 : List Int) (sa : Option Addr) (sl sc sb so : Nat) (z : Nat → Int) (dec : Int) (w : World)
    (h0 : (a0 = none ∧ len0 = 0 ∧ cap0 = 0 ∧ z0 = []) ∨ ∃ x, a0 = some x ∧ len0 ≤ cap0 ∧ cap0 ≤ maxLen ∧ z0.length = cap0 ∧ (∀ i, i < z0.length → w.cell? (x.add i) = some (.int .i64 (z0.getD i 0))) ∧ ∀ n ∈ z0, (Lit.int .i64 n).wf = true)
    (sidx : ∀ k : Nat, k < sl → ∀ w', (Instr.indexAt 23 (.slice sa sl sc) (.int .i64 (k : Int))).run Yba.prog w' = .ok (.pointer (some ⟨sb, so + k, none⟩)) w')
    (scell : ∀ k : Nat, k < sl → sb < w.heap.size ∧ w.cell? ⟨sb, so + k, none⟩ = some (.int .u8 (z k)) ∧ 0 ≤ z k ∧ z k ≤ 255) :
    Calls Yba.prog 3 #[.slice a0 len0 cap0, .slice sa sl sc, .int .i64 dec] w fun e w' => e = .returned (.bool true) ∧ Below w.heap.size w w' := by
  have SI := hide sidx
  have SC := hide scell
  have H0 := hide h0
  clear sidx scell h0
  by_cases hl0 : len0 ≤ 1024
  · by_cases hsl : sl ≤ 1024
    · go_enter Yba.func3, Yba.ntmps3
      go_wp2_with fail
      refine (make_any a0 len0 cap0 z0 sa sl sc sb so z dec w hl0 hsl H0.out SI.out SC.out).mono ?_
      rintro e w1 ⟨hB1, zs, v, B, g, cap, V, L, R, rt, rfl, hk1, hz, hA, ho1, hg1, ht⟩
      clear H0 SI SC
      obtain ⟨a4, c4, rfl⟩ := hk1.slice
      have HA := hide hA
      have HT := hide ht
      have HK1 := hide hk1
      have HO1 := hide ho1
      clear hA ht hk1 ho1
      go_upto_region 4 with fail
      have st2 := Blk.new w1 29 #[.slice (some ⟨g, 0, none⟩) (1 + zs.length) cap, .int .i64 rt, .int .i64 (-1), .int .u64 0]
      have HN : Hid (Nd (w1.alloc (.cells #[.slice (some ⟨g, 0, none⟩) (1 + zs.length) cap, .int .i64 rt, .int .i64 (-1), .int .u64 0] 29)) B w1.heap.size g cap (1 + zs.length) V L R rt) := ⟨st2, HO1.out.alloc _⟩
      have HK2 : KRow (w1.alloc (.cells #[.slice (some ⟨g, 0, none⟩) (1 + zs.length) cap, .int .i64 rt, .int .i64 (-1), .int .u64 0] 29)) w.heap.size (.slice a4 zs.length c4) zs := World.ownsRow.alloc HK1.out _
      have hB2 := hB1.alloc hB1.size (.cells #[.slice (some ⟨g, 0, none⟩) (1 + zs.length) cap, .int .i64 rt, .int .i64 (-1), .int .u64 0] 29)
      generalize (w1.alloc (.cells #[.slice (some ⟨g, 0, none⟩) (1 + zs.length) cap, .int .i64 rt, .int .i64 (-1), .int .u64 0] 29)) = w2 at *
      generalize w1.heap.size = T at *
      have hT : T < w2.heap.size := st2.lt
      have hg2 : g < w2.heap.size := (World.ownsRow.lt HN.out.own g rfl).2
      have s0 : w2.cell? ⟨T, 0, none⟩ = some (.slice (some ⟨g, 0, none⟩) (1 + zs.length) cap) := st2.cell 0
      clear HK1 HO1 hB1 hg1
      go_wp2_with fail
      refine (clone_nodes (n := 1 + zs.length) (by omega) (by omega) HN.out.own).mono ?_
      rintro e w3 ⟨g3, cap3, rfl, ho3, hb3⟩
      have st3 := st2.below hb3 hT
      have HN3 : Hid (Nd w3 B T g cap (1 + zs.length) V L R rt) := by
        refine ⟨st3, HN.out.own.1, ?_⟩
        rcases HN.out.own.2 with h | ⟨g', cap', cur, h1, h2, h3, h4⟩
        · exact .inl h
        · exact .inr ⟨g', cap', cur, h1, h2, by rw [hb3.block g' (Array.getElem?_eq_some_iff.1 h3).1]; exact h3, h4⟩
      have HK3 : Hid (KRow w3 w.heap.size (.slice a4 zs.length c4) zs) := HK2.keep hb3 (fun k hk => (World.ownsRow.lt HK2 k hk).2)
      have hB3 := hB2.trans (hb3.mono hB2.size)
      have HO3 := hide ho3
      clear HN HK2 hB2 hb3 ho3 st2 s0 hT hg2
      have s0 : w3.cell? ⟨T, 0, none⟩ = some (.slice (some ⟨g, 0, none⟩) (1 + zs.length) cap) := st3.cell 0
      have s1 : w3.cell? ⟨T, 1, none⟩ = some (.int .i64 rt) := st3.cell 1
      have s2 : w3.cell? ⟨T, 2, none⟩ = some (.int .i64 (-1)) := st3.cell 2
      go_wp2_with fail
      refine (find_any B T g cap (1 + zs.length) zs.length zs.length _ V L R rt dec _ HN3.out (by omega) HA.out HT.out).mono ?_
      rintro e w4 ⟨rfl, hf⟩
      obtain ⟨kk, rfl, hF⟩ : ∃ kk : Int, e = .returned (.int .i64 kk) ∧ ((∃ i : Nat, kk = (i : Int) ∧ 1 ≤ i ∧ i < 1 + zs.length ∧ V i = dec ∧ ∃ j, j < zs.length ∧ zs.getD j 0 = dec) ∨ (kk = -1 ∧ ∀ j, j < zs.length → zs.getD j 0 ≠ dec)) := by
        rcases hf with ⟨i, rfl, h⟩ | ⟨rfl, h⟩
        · exact ⟨_, rfl, .inl ⟨i, rfl, h⟩⟩
        · exact ⟨_, rfl, .inr ⟨rfl, h⟩⟩
      have HF := hide hF
      clear hf hF
      go_wp2_with fail
      refine (equal_nodes (by omega) HO3.out HN3.out.own).mono ?_
      rintro e w5 ⟨rfl, q, rfl⟩
      have HN5 : Hid (Nd (w4.drewN q) B T g cap (1 + zs.length) V L R rt) := ⟨HN3.out.str, HN3.out.own⟩
      have hk5 : KRow (w4.drewN q) w.heap.size (.slice a4 zs.length c4) zs := HK3.out
      have hB5 : Below w.heap.size w (w4.drewN q) := ⟨hB3.os, hB3.tape, hB3.output, hB3.size, hB3.block⟩
      obtain ⟨kb, _, kix, kcl⟩ := hk5.index
      have KX := hide kix
      have KC := hide kcl
      have r0 : (w4.drewN q).cell? ⟨T, 0, none⟩ = some (.slice (some ⟨g, 0, none⟩) (1 + zs.length) cap) := s0
      clear HN3 HK3 hB3 HO3 s0 s1 s2 st3 kix kcl hk5
      generalize w4.drewN q = w5 at *
      go_wp2_with fail
      go_loopg [12, 55] zs.length (fun m b iv wr => wr = w5 ∧ b = .bool false ∧ ∃ i : Nat, iv = .int .i64 (i : Int) ∧ i ≤ zs.length ∧ m = zs.length - i ∧ Hid (∀ j, j < i → zs.getD j 0 ≠ dec))
      case atStart => exact ⟨rfl, rfl, 0, rfl, by omega, by omega, fun j hj => by omega⟩
      case round =>
        obtain ⟨rfl, rfl, i, rfl, hi, rfl, HI⟩ := hrel
        by_cases hlt : i < zs.length
        · have hix := KX.out i hlt
          have hcx := KC.out i hlt
          rw [Nat.zero_add] at hcx
          simp only [Nat.zero_add] at hix
          generalize hx : zs.getD i 0 = x at hcx
          have HX := hide hx
          clear hx
          by_cases hxd : x = dec
          · subst hxd
            rcases HF.out with ⟨k, rfl, hk1, hk2, hk3, _⟩ | ⟨_, h⟩
            · have cv := HN5.out.val k hk2
              rw [hk3] at cv
              clear hk3
              go_wp2_with fail
              go_ret
              exact ⟨rfl, hB5⟩
            · exact absurd HX.out (h i hlt)
          · go_wp2_with fail
            go_roundg (zs.length - (i + 1))
            case measure => omega
            case rel =>
              refine ⟨rfl, rfl, i + 1, by go_num, by omega, rfl, fun j hj => ?_⟩
              by_cases e : j < i
              · exact HI.out j e
              · obtain rfl : j = i := by omega
                rw [HX.out]; exact hxd
        · have e : i = zs.length := by omega
          subst e
          rcases HF.out with ⟨k, rfl, _, _, _, j, hj1, hj2⟩ | ⟨rfl, _⟩
          · exact absurd hj2 (HI.out j hj1)
          · go_wp2_with fail
            go_ret
            exact ⟨rfl, hB5⟩
    · go_enter Yba.func3, Yba.ntmps3
      go_wp2_with fail
      go_ret
      exact ⟨rfl, Below.refl _ _⟩
  · go_enter Yba.func3, Yba.ntmps3
    go_wp2_with fail
    go_ret
    exact ⟨rfl, Below.refl _ _⟩
end Go.Proofs.Ybulkczzo
