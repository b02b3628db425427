/-
  The contract of zzs5071amake over seat b5071a's program.
-/
import Derived.Test.YbulkczzoKeys
namespace Go.Proofs.Ybulkczzo
open Go.RowKit

theorem KRow.slice {w : World} {B : Nat} {v : Value} {zs : List Int} (h : KRow w B v zs) : ∃ a c, v = .slice a zs.length c := by
  rcases h.form with ⟨rfl, rfl⟩ | ⟨g, cap, cur, rfl, _⟩
  · exact ⟨_, _, rfl⟩
  · exact ⟨_, _, rfl⟩

set_option maxRecDepth 100000 in
set_option maxHeartbeats 2000000 in
theorem newTreap_any (w : World) : Calls Yba.prog 19 #[] w fun e w' => Below w.heap.size w w' ∧ e = .returned (.agg #[.slice none 0 0, .int .i64 (-1), .int .i64 (-1), .int .u64 0]) := by
  go_enter Yba.func19, Yba.ntmps19
  go_wp2_with fail
  (try simp only [Exit.inBlock, Exit.then])
  refine bodyPost_ret (by simp [results, Yba.results19, go_sem]; try rfl) rfl ?_
  exact ⟨(Below.refl _ w).alloc (Nat.le_refl _) _, rfl⟩

set_option maxRecDepth 100000 in
set_option maxHeartbeats 4000000 in
theorem make_any (a0 : Option Addr) (len0 cap0 : Nat) (z0 : List Int) (sa : Option Addr) (sl sc sb so : Nat) (z : Nat → Int) (dec : Int) (w : World) (hl0 : len0 ≤ 1024) (hsl : sl ≤ 1024)
    (h0 : (a0 = none ∧ len0 = 0 ∧ cap0 = 0 ∧ z0 = []) ∨ ∃ x, a0 = some x ∧ len0 ≤ cap0 ∧ cap0 ≤ maxLen ∧ z0.length = cap0 ∧ (∀ i, i < z0.length → w.cell? (x.add i) = some (.int .i64 (z0.getD i 0))) ∧ ∀ n ∈ z0, (Lit.int .i64 n).wf = true)
    (sidx : ∀ k : Nat, k < sl → ∀ w', (Instr.indexAt 23 (.slice sa sl sc) (.int .i64 (k : Int))).run Yba.prog w' = .ok (.pointer (some ⟨sb, so + k, none⟩)) w')
    (scell : ∀ k : Nat, k < sl → sb < w.heap.size ∧ w.cell? ⟨sb, so + k, none⟩ = some (.int .u8 (z k)) ∧ 0 ≤ z k ∧ z k ≤ 255) :
    Calls Yba.prog 7 #[.slice a0 len0 cap0, .slice sa sl sc, .int .i64 dec] w fun e w' => Below w.heap.size w w' ∧
      ∃ (zs : List Int) (v : Value) (B g cap : Nat) (V L R : Nat → Int) (rt : Int),
        e = .returned (.tuple #[.agg #[.slice (some ⟨g, 0, none⟩) (1 + zs.length) cap, .int .i64 rt, .int .i64 (-1), .int .u64 0], v]) ∧
        KRow w' w.heap.size v zs ∧ zs.length ≤ 1024 ∧ Asc (fun i => zs.getD i 0) zs.length ∧
        w'.ownsRow B 35 4 (.slice (some ⟨g, 0, none⟩) (1 + zs.length) cap) (1 + zs.length) (nodeCells V L R (1 + zs.length)) ∧ g < w'.heap.size ∧
        Tree (fun i => zs.getD i 0) V L R 1 (1 + zs.length) zs.length rt 0 zs.length := by
  have SI := hide sidx
  have SC := hide scell
  have H0 := hide h0
  clear sidx scell h0
  go_enter Yba.func7, Yba.ntmps7
  go_wp2_with fail
  have rb1 := Blk.new w 29 #[.slice none 0 0, .int .i64 0, .int .i64 0, .int .u64 0]
  have hB1 : Below w.heap.size w (w.alloc (.cells #[.slice none 0 0, .int .i64 0, .int .i64 0, .int .u64 0] 29)) := (Below.refl _ w).alloc (Nat.le_refl _) _
  have hs1 : (w.alloc (.cells #[.slice none 0 0, .int .i64 0, .int .i64 0, .int .u64 0] 29)).heap.size = w.heap.size + 1 := by simp
  have h1 : (a0 = none ∧ len0 = 0 ∧ cap0 = 0 ∧ z0 = []) ∨ ∃ x, a0 = some x ∧ len0 ≤ cap0 ∧ cap0 ≤ maxLen ∧ z0.length = cap0 ∧ (∀ i, i < z0.length → (w.alloc (.cells #[.slice none 0 0, .int .i64 0, .int .i64 0, .int .u64 0] 29)).cell? (x.add i) = some (.int .i64 (z0.getD i 0))) ∧ ∀ n ∈ z0, (Lit.int .i64 n).wf = true := by
    rcases H0.out with h | ⟨x, h1, h2, h3, h4, h5, h6⟩
    · exact .inl h
    · exact .inr ⟨x, h1, h2, h3, h4, fun i hi => Lib.cell?_alloc_some _ (h5 i hi), h6⟩
  have hcall := clone_keys a0 len0 cap0 z0 _ hl0 h1
  generalize (w.alloc (.cells #[.slice none 0 0, .int .i64 0, .int .i64 0, .int .u64 0] 29)) = w1 at *
  refine hcall.mono ?_
  clear hcall h1 H0
  rintro e w2 ⟨v2, rfl, hk2, hb2⟩
  rw [hs1] at hk2 hb2
  have hB2 := hB1.trans (hb2.mono (by omega))
  have rb2 := rb1.below hb2 (by omega)
  have hz2 : (z0.take len0).length ≤ 1024 := by rw [List.length_take]; omega
  clear rb1 hB1
  go_wp2_with fail
  have hw1 := hB2.size
  have hw2 := rb2.lt
  refine (sort_keys v2 _ (w.heap.size + 1) w2 hk2 (by omega) hz2).mono ?_
  rintro e w3 ⟨rfl, hk3, hb3⟩
  have hB3 := hB2.trans (hb3.mono (by omega))
  have rb3 := rb2.below hb3 (by omega)
  have hp3 := sorted_pairwise (z0.take len0)
  have hz3 : ((z0.take len0).mergeSort fun x y => decide (x ≤ y)).length ≤ 1024 := by rw [List.length_mergeSort]; exact hz2
  clear hB2 rb2 hk2 hb2 hb3 hw1 hw2 hz2 hs1
  generalize ((z0.take len0).mergeSort fun x y => decide (x ≤ y)) = ys at *
  go_wp2_with fail
  refine (compact_keys v2 ys (w.heap.size + 1) w3 hk3 hz3).mono ?_
  rintro e w4 ⟨v4, rfl, hk4, hb4⟩
  have hB4 := hB3.trans (hb4.mono (by omega))
  have rb4 := rb3.below hb4 (by omega)
  have hA := compact_asc ys hp3
  have hz4 := Nat.le_trans (Lib.compact_length_le ys) hz3
  have HA := hide hA
  clear hA hB3 rb3 hk3 hb4 hp3
  generalize Lib.compact ys = zs at *
  obtain ⟨a4, c4, rfl⟩ := hk4.slice
  clear hz3
  go_wp2_with fail
  refine (newTreap_any w4).mono ?_
  rintro e w5 ⟨hb5, rfl⟩
  have hB5 := hB4.trans (hb5.mono hB4.size)
  have rb5 := rb4.below hb5 rb4.lt
  have hk5 : KRow w5 (w.heap.size + 1) (.slice a4 zs.length c4) zs := hk4.keep hb5 (fun k hk => (World.ownsRow.lt hk4 k hk).2)
  have HK5 := hide hk5
  clear hB4 rb4 hk4 hb5 hk5
  obtain ⟨i0, hi0, hz0, hsz0, hby0⟩ := info35
  go_upto_region 5 with fail
  have st6 := Blk.new w5 29 #[.slice none 0 0, .int .i64 (-1), .int .i64 (-1), .int .u64 0]
  have rb6 := rb5.alloc (.cells #[.slice none 0 0, .int .i64 (-1), .int .i64 (-1), .int .u64 0] 29)
  have hB6 := hB5.alloc hB5.size (.cells #[.slice none 0 0, .int .i64 (-1), .int .i64 (-1), .int .u64 0] 29)
  have hs6 : (w5.alloc (.cells #[.slice none 0 0, .int .i64 (-1), .int .i64 (-1), .int .u64 0] 29)).heap.size = w5.heap.size + 1 := by simp
  have hk6 : KRow (w5.alloc (.cells #[.slice none 0 0, .int .i64 (-1), .int .i64 (-1), .int .u64 0] 29)) (w.heap.size + 1) (.slice a4 zs.length c4) zs := World.ownsRow.alloc HK5.out _
  have hkt : ∀ k, (Value.slice a4 zs.length c4).ownBlock = some k → k < w5.heap.size := fun k hk => (World.ownsRow.lt HK5.out k hk).2
  have hrt : w.heap.size < w5.heap.size := rb5.lt
  have HK6 := hide hk6
  have HKT := hide hkt
  clear rb5 hB5 HK5 hk6 hkt
  generalize (w5.alloc (.cells #[.slice none 0 0, .int .i64 (-1), .int .i64 (-1), .int .u64 0] 29)) = w6 at *
  generalize w5.heap.size = T at *
  have s0 : w6.cell? ⟨T, 0, none⟩ = some (.slice none 0 0) := st6.cell 0
  have HW : Hid (∀ j u, ([.int .i64 dec, .int .u64 0, .int .i64 (-1), .int .i64 (-1)] : List Value)[j]? = some u → (w6.alloc (.cells #[.int .i64 dec, .int .u64 0, .int .i64 (-1), .int .i64 (-1)] 35)).cell? ((⟨T + 1, 0, none⟩ : Addr).add j) = some u) := by
    intro j u hu
    rw [Addr.add_lit, Nat.zero_add, ← hs6, (Blk.new w6 35 _).cell j]
    simpa using hu
  go_wp2_with (at_builtin; go_loud (refine wpList_append_own _ rfl _ _ 24 rfl (T + 1) 35 i0 _ 4 32 Yba.underlying24 hi0 hz0 hsz0 hby0 rfl (by decide) (.slice none 0 0) 0 [] rfl (World.ownsRow_nil _ _ _ _) ⟨T + 1, 0, none⟩ 1 1 [.int .i64 dec, .int .u64 0, .int .i64 (-1), .int .i64 (-1)] rfl rfl HW.out ?qc3 ?qc4 ?qc5 ?qc6 ?_))
  case qc3 => intro u hu; simp at hu; rcases hu with rfl | rfl | rfl | rfl <;> rfl
  case qc4 => decide
  case qc5 => decide
  case qc6 => simp; omega
  intro v7 w7 hown7 hgrow7 _
  obtain ⟨g, cap, rfl⟩ := own_form hown7
  have hb7 : Below (T + 1) w6 w7 := ((Below.refl (T + 1) w6).alloc (by omega) _).grown hgrow7 (by simp; omega) (by intro k hk; simp [Value.ownBlock] at hk)
  have st7 := st6.below hb7 (by omega)
  have rb7 := rb6.below hb7 (by omega)
  have hB7 := hB6.trans (hb7.mono (by omega))
  have HK7 : Hid (KRow w7 (w.heap.size + 1) (.slice a4 zs.length c4) zs) := HK6.out.keep hb7 (fun k hk => by have := HKT.out k hk; omega)
  have k0 : w7.cell? ⟨T, 0, none⟩ = some (.slice none 0 0) := st7.cell 0
  have f0 := st7.frozen 0
  have HO7 := hide hown7
  clear hown7 hgrow7 HW s0 st6 rb6 hB6 HK6 hb7 hs6
  go_wp2_with fail
  have hN : Nd (w7.setCell ⟨T, 0, none⟩ (.slice (some ⟨g, 0, none⟩) (0 + 1) cap)) (T + 1) T g cap 1 (fun _ => dec) (fun _ => -1) (fun _ => -1) (-1) := by
    refine ⟨st7.same 0 _, ?_⟩
    exact ownsRow_setCell_below HO7.out (by show T < T + 1; omega) _
  have hB8 := hB7.setCell (p := ⟨T, 0, none⟩) (by show w.heap.size ≤ T; omega) (.slice (some ⟨g, 0, none⟩) (0 + 1) cap)
  have rb8 := rb7.other T 0 (.slice (some ⟨g, 0, none⟩) (0 + 1) cap) (by omega)
  have hk8 : KRow (w7.setCell ⟨T, 0, none⟩ (.slice (some ⟨g, 0, none⟩) (0 + 1) cap)) (w.heap.size + 1) (.slice a4 zs.length c4) zs := HK7.out.keep (B' := T) ((Below.refl T w7).setCell (Nat.le_refl _) _) HKT.out
  have HK8 := hide hk8
  clear HK7 rb7 hB7 st7 k0 f0 HO7 hk8
  generalize (w7.setCell ⟨T, 0, none⟩ (.slice (some ⟨g, 0, none⟩) (0 + 1) cap)) = w8 at *
  go_wp2_with fail
  obtain ⟨kb, hkb, kix, kcl⟩ := HK8.out.index
  have hsrc : Src w8 T (.slice a4 zs.length c4) zs.length kb 0 (fun i => zs.getD i 0) sa sl sc sb so z := by
    refine ⟨kix, fun m hm => ⟨?_, kcl m hm⟩, SI.out, fun m hm => ?_⟩
    · rcases hkb with h | ⟨h, _⟩
      · omega
      · exact HKT.out kb h
    · obtain ⟨h1, h2, h3⟩ := SC.out m hm
      exact ⟨by omega, by rw [hB8.cell h1]; exact h2, h3⟩
  have hcall := build_tree w8 T _ zs.length kb 0 _ sa sl sc sb so z hsrc (-1) (by omega) (by omega) zs.length 0 zs.length 1 g cap _ _ _ w8 (by omega) (by omega) (by omega) (by omega) (by omega) (Below.refl _ _) hN
  refine hcall.mono ?_
  rintro e w9 ⟨rt, g9, cap9, V, L, R, rfl, hb9, hN9, _, ht9⟩
  have hB9 := hB8.trans (hb9.mono (by omega))
  have rb9 := rb8.below hb9 (by omega)
  have HK9 : Hid (KRow w9 (w.heap.size + 1) (.slice a4 zs.length c4) zs) := HK8.out.keep hb9 HKT.out
  clear hcall hsrc HK8 hkb kix kcl hb9 rb8 hB8 hN SI SC
  simp only [Nat.sub_zero] at hN9 ht9
  have st9 := hN9.str
  have c0 : w9.cell? ⟨T, 0, none⟩ = some (.slice (some ⟨g9, 0, none⟩) (1 + zs.length) cap9) := st9.cell 0
  have c1 : w9.cell? ⟨T, 1, none⟩ = some (.int .i64 (-1)) := st9.cell 1
  have c2 : w9.cell? ⟨T, 2, none⟩ = some (.int .i64 (-1)) := st9.cell 2
  have c3 : w9.cell? ⟨T, 3, none⟩ = some (.int .u64 0) := st9.cell 3
  have f1 := st9.frozen 1
  have r0 : w9.cell? ⟨w.heap.size, 0, none⟩ = some (.slice none 0 0) := rb9.cell 0
  have r1 : w9.cell? ⟨w.heap.size, 1, none⟩ = some (.int .i64 0) := rb9.cell 1
  have r2 : w9.cell? ⟨w.heap.size, 2, none⟩ = some (.int .i64 0) := rb9.cell 2
  have r3 : w9.cell? ⟨w.heap.size, 3, none⟩ = some (.int .u64 0) := rb9.cell 3
  have q0 := rb9.frozen 0
  have q1 := rb9.frozen 1
  have q2 := rb9.frozen 2
  have q3 := rb9.frozen 3
  have hne1 : w.heap.size ≠ T := by omega
  have hne2 : T ≠ w.heap.size := by omega
  have HN9 := hide hN9
  have HT9 := hide ht9
  clear hN9 ht9
  go_wp2_with fail
  have hB10 := ((((hB9.setCell (p := ⟨T, 1, none⟩) (by show w.heap.size ≤ T; omega) (.int .i64 rt)).setCell (p := ⟨w.heap.size, 0, none⟩) (Nat.le_refl _) (.slice (some ⟨g9, 0, none⟩) (1 + zs.length) cap9)).setCell (p := ⟨w.heap.size, 1, none⟩) (Nat.le_refl _) (.int .i64 rt)).setCell (p := ⟨w.heap.size, 2, none⟩) (Nat.le_refl _) (.int .i64 (-1))).setCell (p := ⟨w.heap.size, 3, none⟩) (Nat.le_refl _) (.int .u64 0)
  have rb10 := ((((rb9.other T 1 (.int .i64 rt) hne1).same 0 (.slice (some ⟨g9, 0, none⟩) (1 + zs.length) cap9)).same 1 (.int .i64 rt)).same 2 (.int .i64 (-1))).same 3 (.int .u64 0)
  have hfr : Fr (fun k => k = w.heap.size ∨ k = T) w9 (((((w9.setCell ⟨T, 1, none⟩ (.int .i64 rt)).setCell ⟨w.heap.size, 0, none⟩ (.slice (some ⟨g9, 0, none⟩) (1 + zs.length) cap9)).setCell ⟨w.heap.size, 1, none⟩ (.int .i64 rt)).setCell ⟨w.heap.size, 2, none⟩ (.int .i64 (-1))).setCell ⟨w.heap.size, 3, none⟩ (.int .u64 0)) :=
    (((((Fr.refl _ w9).setCell _ _ _ (.inr rfl)).setCell _ _ _ (.inl rfl)).setCell _ _ _ (.inl rfl)).setCell _ _ _ (.inl rfl)).setCell _ _ _ (.inl rfl)
  generalize (((((w9.setCell ⟨T, 1, none⟩ (.int .i64 rt)).setCell ⟨w.heap.size, 0, none⟩ (.slice (some ⟨g9, 0, none⟩) (1 + zs.length) cap9)).setCell ⟨w.heap.size, 1, none⟩ (.int .i64 rt)).setCell ⟨w.heap.size, 2, none⟩ (.int .i64 (-1))).setCell ⟨w.heap.size, 3, none⟩ (.int .u64 0)) = w10 at *
  have x0 : w10.cell? ⟨w.heap.size, 0, none⟩ = some (.slice (some ⟨g9, 0, none⟩) (1 + zs.length) cap9) := rb10.cell 0
  have x1 : w10.cell? ⟨w.heap.size, 1, none⟩ = some (.int .i64 rt) := rb10.cell 1
  have x2 : w10.cell? ⟨w.heap.size, 2, none⟩ = some (.int .i64 (-1)) := rb10.cell 2
  have x3 : w10.cell? ⟨w.heap.size, 3, none⟩ = some (.int .u64 0) := rb10.cell 3
  refine bodyPost_ret (by simp [results, Yba.results7, go_sem, x0, x1, x2, x3]; try rfl) rfl ?_
  have hbg := HN9.out.base
  refine ⟨hB10, zs, .slice a4 zs.length c4, T + 1, g9, cap9, V, L, R, rt, rfl, ?_, hz4, HA.out, ?_, Nat.lt_of_lt_of_le hbg.2 hfr.size, HT9.out⟩
  · rcases HK9.out.2 with h | ⟨g, cap, cur, h1, h2, h3, h4⟩
    · exact ⟨HK9.out.1, .inl h⟩
    · have := HKT.out g (by rw [h1]; rfl)
      exact ⟨HK9.out.1, .inr ⟨g, cap, cur, h1, by omega, by rw [hfr.block g (Array.getElem?_eq_some_iff.1 h3).1 (by omega)]; exact h3, h4⟩⟩
  · rcases HN9.out.own.2 with h | ⟨g, cap, cur, h1, h2, h3, h4⟩
    · exact ⟨HN9.out.own.1, .inl h⟩
    · exact ⟨HN9.out.own.1, .inr ⟨g, cap, cur, h1, h2, by rw [hfr.block g (Array.getElem?_eq_some_iff.1 h3).1 (by omega)]; exact h3, h4⟩⟩
end Go.Proofs.Ybulkczzo
