/-
  The walk of LawS5057BScript over seat b5057a's program.
-/
import Derived.Test.YbulkczsaScript
namespace Go.Proofs.Ybulkczsa
open Go.RowKit

/-- the cells of a new keyTable -/
def tab0 : Array Value := tabCells (fun _ => none) 0 0

theorem row_all (f g : Nat → Value) (h : ∀ i, i < 16 → f i = g i) : rowV 16 f = rowV 16 g := by
  unfold rowV
  rw [List.map_congr_left fun i hi => h i (List.mem_range.1 hi)]

/-- the model's first array, k cells written -/
def minus (k : Nat) (i : Nat) : Value := .int .i64 (if i < k then -1 else 0)
theorem minus_step (k : Nat) : upd (minus k) k (.int .i64 (-1)) = minus (k + 1) := by
  funext i
  unfold upd minus
  by_cases e : i = k
  · rw [if_pos e, if_pos (by omega)]
  · rw [if_neg e]
    by_cases h : i < k
    · rw [if_pos h, if_pos (by omega)]
    · rw [if_neg h, if_neg (by omega)]

theorem start {w wr : World} (hf : Below w.heap.size w wr) (hz : wr.heap.size = w.heap.size + 1 + 1) (h0 : Blk wr w.heap.size 47 tab0) (h1 : Blk wr (w.heap.size + 1) 48 (rowV 16 (minus 16))) :
    Below w.heap.size w ((wr.alloc (.cells (rowV 16 fun _ => .int .u64 0) 49)).alloc (.cells (rowV 16 fun _ => .pointer none) 50)) ∧
    Lay2 ((wr.alloc (.cells (rowV 16 fun _ => .int .u64 0) 49)).alloc (.cells (rowV 16 fun _ => .pointer none) 50)) w.heap.size (fun _ => none) (fun _ => -1) (fun _ => 0) (fun _ => .pointer none) 0 := by
  refine ⟨(hf.alloc (by omega) _).alloc (by simp; omega) _, ⟨⟨(h0.alloc _).alloc _, fun i _ k h => by cases h⟩, ?_, ?_, ?_⟩⟩
  · have := (h1.alloc (.cells (rowV 16 fun _ => .int .u64 0) 49)).alloc (.cells (rowV 16 fun _ => .pointer none) 50)
    rw [row_all (minus 16) (fun _ => .int .i64 (-1)) (fun i hi => by unfold minus; rw [if_pos hi])] at this
    exact this
  · have := (Blk.new wr 49 (rowV 16 fun _ => .int .u64 0)).alloc (.cells (rowV 16 fun _ => .pointer none) 50)
    rw [hz] at this; exact this
  · have := Blk.new (wr.alloc (.cells (rowV 16 fun _ => .int .u64 0) 49)) 50 (rowV 16 fun _ => .pointer none)
    rw [World.size_alloc, hz] at this; exact this

theorem good30 (N : Nat) : Good3 N (fun _ => none) (fun _ => -1) (fun _ => 0) (fun _ => .pointer none) 0 := by
  refine ⟨fun _ _ => rfl, ?_, ?_, ?_, ?_, ?_, ?_, fun _ => rfl, by omega, ?_⟩
  · intro _ _ h; cases h
  · intro _ _ h; cases h
  · intro _ _ h; cases h
  · intro _ _ h; cases h
  · intro _ _ h; cases h
  · intro _ _ _ _ h; cases h
  · intro _ _ h; cases h

/-- the round's first three blocks -/
theorem mid3 {w wr : World} {K : Nat → Option KK} {S U : Nat → Int} {R : Nat → Value} {clk : Int} (hf : Below w.heap.size w wr) (hL : Lay2 wr w.heap.size K S U R clk) (x y : Array Value) (o : Obj) :
    (((wr.alloc (.cells x 52)).alloc o).alloc (.cells y 54)).heap.size = wr.heap.size + 1 + 1 + 1 ∧ Below w.heap.size w (((wr.alloc (.cells x 52)).alloc o).alloc (.cells y 54)) ∧
    Lay2 (((wr.alloc (.cells x 52)).alloc o).alloc (.cells y 54)) w.heap.size K S U R clk ∧ Blk (((wr.alloc (.cells x 52)).alloc o).alloc (.cells y 54)) wr.heap.size 52 x ∧
    Blk (((wr.alloc (.cells x 52)).alloc o).alloc (.cells y 54)) (wr.heap.size + 1 + 1) 54 y := by
  have hs := hf.size
  refine ⟨by simp, ((hf.alloc (by omega) _).alloc (by simp; omega) _).alloc (by simp; omega) _, ((hL.alloc _).alloc _).alloc _, ((Blk.new wr 52 x).alloc _).alloc _, ?_⟩
  have := Blk.new ((wr.alloc (.cells x 52)).alloc o) 54 y
  rw [World.size_alloc, World.size_alloc] at this
  exact this

set_option maxRecDepth 100000 in
set_option maxHeartbeats 4000000 in
theorem script_walk (a : Option Addr) (len cap : Nat) (w : World) (b off : Nat) (OP SS : Nat → Int) (hlen : len ≤ 1024)
    (hidx : ∀ k : Nat, k < len → ∀ w', (Instr.indexAt 26 (.slice a len cap) (.int .i64 (k : Int))).run Yba.prog w' = .ok (.pointer (some ⟨b, off + k * 2, none⟩)) w')
    (hsl : ∀ k : Nat, k < len → b < w.heap.size ∧ w.cell? ⟨b, off + k * 2, none⟩ = some (.int .u8 (OP k)) ∧ w.cell? ⟨b, off + k * 2 + 1, none⟩ = some (.int .u8 (SS k)) ∧ 0 ≤ OP k ∧ OP k ≤ 255 ∧ 0 ≤ SS k ∧ SS k ≤ 255) :
    Calls Yba.prog 5 #[.slice a len cap] w fun e w' => e = .returned (.bool true) ∧ Below w.heap.size w w' := by
  have hb0 := (Blk.new w 47 tab0).alloc (.cells (rowV 16 (minus 0)) 48)
  have hb1 := Blk.new (w.alloc (.cells tab0 47)) 48 (rowV 16 (minus 0))
  rw [World.size_alloc] at hb1
  have hf0 : Below w.heap.size w ((w.alloc (.cells tab0 47)).alloc (.cells (rowV 16 (minus 0)) 48)) := ((Below.refl _ _).alloc (Nat.le_refl _) _).alloc (by simp) _
  go_enter Yba.func5, Yba.ntmps5
  go_wp2_with fail
  go_loopw [5] (fun i wr => ∃ k : Nat, k ≤ 16 ∧ i = .int .i64 k ∧ wr.heap.size = w.heap.size + 1 + 1 ∧ Below w.heap.size w wr ∧ Blk wr w.heap.size 47 tab0 ∧ Blk wr (w.heap.size + 1) 48 (rowV 16 (minus k))) (fun i _ => 16 - (intOf i).toNat)
  case atStart => exact ⟨0, by omega, rfl, by simp, hf0, hb0, hb1⟩
  case round =>
    clear hb0 hb1 hf0
    obtain ⟨k, hk, rfl, hz, hf, h0, h1⟩ := hrel
    by_cases hlt : k < 16
    · have c : wr.cell? ⟨w.heap.size + 1, k, none⟩ = some (minus k k) := by rw [h1.cell, rowV_get _ _ _ hlt]
      have z := h1.frozen k
      clear hidx hsl
      go_wp2_with fail
      go_roundw
      case rel =>
        refine ⟨k + 1, by omega, by go_num, by simp [hz], hf.setCell (by show _ ≤ w.heap.size + 1; omega) _, h0.other _ _ _ (by omega), ?_⟩
        have := h1.same k (.int .i64 (-1)); rw [rowV_set, minus_step] at this; exact this
      case measure => simp [intOf]; omega
    · have hk16 : k = 16 := by omega
      have h1' : Blk wr (w.heap.size + 1) 48 (rowV 16 (minus 16)) := by have := h1; rw [hk16] at this; exact this
      have hS := start hf hz h0 h1'
      clear hk16 h0 h1 h1' hf
      go_wp2_with fail
      clear hz
      go_loopw [8, 36] (fun c i wr => ∃ (k : Nat) (K : Nat → Option KK) (S U : Nat → Int) (R : Nat → Value) (clk : Int), i = .int .i64 k ∧ c = .int .u64 clk ∧ k ≤ len ∧ clk ≤ k ∧ Below w.heap.size w wr ∧ Lay2 wr w.heap.size K S U R clk ∧ Good3 w.heap.size K S U R clk) (fun _ i _ => len - (intOf i).toNat)
      case atStart => exact ⟨0, _, _, _, _, 0, rfl, rfl, by omega, by omega, hS.1, hS.2, good30 _⟩
      case round =>
        clear hS
        obtain ⟨k2, K, S, U, R, clk, rfl, rfl, hk2, hck, hf, hL, hG⟩ := hrel
        have hc0 := hG.clk0
        by_cases hlt2 : k2 < len
        · obtain ⟨hbl, hc1, hc2, hp0, hp1, hq0, hq1⟩ := hsl k2 hlt2
          have hix := hidx k2 hlt2
          have d0 : wr.cell? ⟨b, off + k2 * 2, none⟩ = some (.int .u8 (OP k2)) := by rw [hf.cell hbl]; exact hc1
          have d1 : wr.cell? ⟨b, off + k2 * 2 + 1, none⟩ = some (.int .u8 (SS k2)) := by rw [hf.cell hbl]; exact hc2
          clear hc1 hc2 hidx hsl
          go_wp2_with fail
          refine (scopeB_any _ _ (by omega) (by omega)).mono ?_
          rintro e w2 ⟨rfl, rfl⟩
          have hm := mid3 hf hL #[.int .u8 (OP k2), .int .u8 (SS k2)] #[.string secB, .string dateB, .string regB, .string (svcB (SS k2 % 24))] (.cells #[.string secB, .string dateB, .string regB, .string (svcB (SS k2 % 24))] 54)
          go_upto_block 4 with fail
          generalize (((wr.alloc (.cells #[.int .u8 (OP k2), .int .u8 (SS k2)] 52)).alloc (.cells #[.string secB, .string dateB, .string regB, .string (svcB (SS k2 % 24))] 54)).alloc (.cells #[.string secB, .string dateB, .string regB, .string (svcB (SS k2 % 24))] 54)) = wq at hm ⊢
          obtain ⟨hz3, hf3, hL3, hB52, hB54⟩ := hm
          have hM : w.heap.size + 1 + 1 + 1 < wr.heap.size := hL.mp.lt
          have hKb : ∀ i q, K i = some q → q.b < wr.heap.size := fun i q hq => (hL.tab.key i (hG.out i q hq) q hq).lt
          clear hf hL d0 d1 hix hbl
          generalize wr.heap.size = M at hz3 hB52 hB54 hM hKb ⊢
          go_cut [13] (fun e wx => wx = wq ∧ ∃ x : Int, e = .int .i64 x ∧ Hit S (SS k2 % 24) x)
          case first =>
            go_wp2_with fail
            go_loop [13, 14] (fun e i => e = .int .i64 (-1) ∧ ∃ m : Nat, m ≤ 16 ∧ i = .int .i64 m ∧ ∀ i, i < m → ¬ S i = SS k2 % 24) (fun _ i => 16 - (intOf i).toNat)
            case atStart => exact ⟨rfl, 0, by omega, rfl, fun i hi => by omega⟩
            case round =>
              obtain ⟨rfl, m, hm, rfl, hno⟩ := hrel
              by_cases hm16 : m < 16
              · have cm : wq.cell? ⟨w.heap.size + 1, m, none⟩ = some (.int .i64 (S m)) := by rw [hL3.ms.cell, rowV_get _ _ _ hm16]
                by_cases hP : S m = SS k2 % 24
                · have hP' : (S m == SS k2 % 24) = true := by simp [hP]
                  have HP : Hid (S m = SS k2 % 24) := hP
                  clear hP
                  go_wp2_with fail
                  go_meet
                  case rel => exact ⟨rfl, m, rfl, .inr ⟨m, hm16, rfl, HP.out, hno⟩⟩
                · have hP' : (S m == SS k2 % 24) = false := by simp [hP]
                  have HP : Hid (¬ S m = SS k2 % 24) := hP
                  clear hP
                  go_wp2_with fail
                  go_round
                  case rel => exact ⟨rfl, m + 1, by omega, by go_num, fun i hi => (by by_cases e : i = m; · subst e; exact HP.out
                                                                                      · exact hno i (by omega))⟩
                  case measure => simp [intOf]; omega
              · go_wp2_with fail
                go_meet
                case rel => exact ⟨rfl, -1, rfl, .inl ⟨rfl, fun i hi => hno i (by omega)⟩⟩
          case rest =>
            obtain ⟨rfl, e, rfl, hE⟩ := hcut
            have ho : wc.cell? ⟨M, 0, none⟩ = some (.int .u8 (OP k2)) := hB52.cell 0
            have s0 : wc.cell? ⟨M + 1 + 1, 0, none⟩ = some (.string secB) := hB54.cell 0
            have s1 : wc.cell? ⟨M + 1 + 1, 1, none⟩ = some (.string dateB) := hB54.cell 1
            have s2 : wc.cell? ⟨M + 1 + 1, 2, none⟩ = some (.string regB) := hB54.cell 2
            have s3 : wc.cell? ⟨M + 1 + 1, 3, none⟩ = some (.string (svcB (SS k2 % 24))) := hB54.cell 3
            go_upto_if 59 with fail
            go_cut [8] (fun c wx => ∃ (K' : Nat → Option KK) (S' U' : Nat → Int) (R' : Nat → Value) (clk' : Int), c = .int .u64 clk' ∧ clk' ≤ k2 + 1 ∧ Below w.heap.size w wx ∧ Lay2 wx w.heap.size K' S' U' R' clk' ∧ Good3 w.heap.size K' S' U' R' clk')
            case first =>
              by_cases hop : OP k2 % 2 = 0
              · have hop' : (OP k2 % 2 == 0) = true := by simp [hop]
                clear hop
                rcases hE with ⟨rfl, hno⟩ | ⟨j, hj, rfl, hSj, hno⟩
                · go_wp2_with fail
                  refine (findB_miss hL3 hG (by omega) (by omega) hno).mono ?_
                  rintro x w5 ⟨rfl, hb5, hL5⟩
                  have hf5 := hf3.trans hb5
                  go_wp2_with fail
                  go_meet
                  case rel => exact ⟨K, S, U, R, clk, rfl, by omega, hf5, hL5, hG⟩
                · go_wp2_with fail
                  refine (findB_hit hL3 hG (by omega) (by omega) j hj hSj hno).mono ?_
                  rintro x w5 ⟨p, hp, rfl, hb5, hL5⟩
                  have hf5 := hf3.trans hb5
                  have cr : w5.cell? ⟨w.heap.size + 1 + 1 + 1, j, none⟩ = some (.pointer (some ⟨p.b, 0, none⟩)) := by rw [hL5.mp.cell, rowV_get _ _ _ hj, hG.ptr j, hp]; rfl
                  have cu : w5.cell? ⟨w.heap.size + 1 + 1, j, none⟩ = some (.int .u64 (U j)) := by rw [hL5.mu.cell, rowV_get _ _ _ hj]
                  have zu := hL5.mu.frozen j
                  have hne := neq_same
                  have hG5 := hG.hit j p hp
                  have HL : Hid (Lay2 (w5.setCell ⟨w.heap.size + 1 + 1, j, none⟩ (.int .u64 clk)) w.heap.size (upd K j (some { p with u := clk })) S (upd U j clk) R clk) := hL5.setU hG5.old j clk
                  have HG : Hid (Good3 w.heap.size (upd K j (some { p with u := clk })) S (upd U j clk) R clk) := hG5
                  have hfu : Below w.heap.size w (w5.setCell ⟨w.heap.size + 1 + 1, j, none⟩ (.int .u64 clk)) := hf5.setCell (by show _ ≤ w.heap.size + 1 + 1; omega) _
                  clear hL5 hG5 hp hSj hno
                  go_wp2_with fail
                  go_meet
                  case rel => exact ⟨_, _, _, _, clk, rfl, by omega, hfu, HL.out, HG.out⟩
              · have hop' : (OP k2 % 2 == 0) = false := by simp [hop]
                clear hop
                have hd : Blk (wc.alloc (.cells (KK.cells ⟨M + 1 + 1 + 1, secB, dateB, regB, svcB (SS k2 % 24), .slice none 0 0, 0⟩) 62)) (M + 1 + 1 + 1) 62 (KK.cells ⟨M + 1 + 1 + 1, secB, dateB, regB, svcB (SS k2 % 24), .slice none 0 0, 0⟩) := by
                  have := Blk.new wc 62 (KK.cells ⟨M + 1 + 1 + 1, secB, dateB, regB, svcB (SS k2 % 24), .slice none 0 0, 0⟩)
                  rw [hz3] at this; exact this
                have hLd := hL3.alloc (.cells (KK.cells ⟨M + 1 + 1 + 1, secB, dateB, regB, svcB (SS k2 % 24), .slice none 0 0, 0⟩) 62)
                have hfd : Below w.heap.size w (wc.alloc (.cells (KK.cells ⟨M + 1 + 1 + 1, secB, dateB, regB, svcB (SS k2 % 24), .slice none 0 0, 0⟩) 62)) := hf3.alloc (by omega) _
                have hdn : ∀ i q, K i = some q → q.b ≠ M + 1 + 1 + 1 := fun i q hq => by have := hKb i q hq; omega
                rcases hE with ⟨rfl, hno⟩ | ⟨j, hj, rfl, hSj, hno⟩
                · go_wp2_with fail
                  refine (keepB_new hLd hG (by omega) (by omega) (by omega) hno ⟨M + 1 + 1 + 1, secB, dateB, regB, svcB (SS k2 % 24), .slice none 0 0, 0⟩ hd ⟨rfl, rfl, rfl, rfl⟩ hdn (by show _ < M + 1 + 1 + 1; omega)).mono ?_
                  rintro x w5 ⟨rfl, hb5, t, ht, hL5⟩
                  have hf5 := hfd.trans hb5
                  have hL6 : Lay2 w5 w.heap.size (upd K t (some ⟨M + 1 + 1 + 1, secB, dateB, regB, svcB (SS k2 % 24), .slice none 0 0, clk + 1⟩)) S U R (clk + 1) := hL5
                  clear hd hLd hfd hb5 hL3 hf3 hB52 hB54 hz3 hL5 hno ho s0 s1 s2 s3
                  go_upto_block 6 with fail
                  go_cut [18] (fun e wx => wx = w5 ∧ ∃ x : Int, e = .int .i64 x ∧ Neg S x)
                  case first =>
                    go_wp2_with fail
                    go_loop [18, 19] (fun e i => e = .int .i64 (-1) ∧ ∃ m : Nat, m ≤ 16 ∧ i = .int .i64 m ∧ ∀ i, i < m → ¬ S i < 0) (fun _ i => 16 - (intOf i).toNat)
                    case atStart => exact ⟨rfl, 0, by omega, rfl, fun i hi => by omega⟩
                    case round =>
                      obtain ⟨rfl, m, hm, rfl, hno⟩ := hrel
                      by_cases hm16 : m < 16
                      · have cm : w5.cell? ⟨w.heap.size + 1, m, none⟩ = some (.int .i64 (S m)) := by rw [hL6.ms.cell, rowV_get _ _ _ hm16]
                        by_cases hP : S m < 0
                        · go_wp2_with fail
                          go_meet
                          case rel => exact ⟨rfl, m, rfl, .inr ⟨m, hm16, rfl, hP, fun i hi => (by have := hno i hi; omega)⟩⟩
                        · go_wp2_with fail
                          go_round
                          case rel => exact ⟨rfl, m + 1, by omega, by go_num, fun i hi => (by by_cases e : i = m; · subst e; omega
                                                                                              · have := hno i (by omega); omega)⟩
                          case measure => simp [intOf]; omega
                      · go_wp2_with fail
                        go_meet
                        case rel => exact ⟨rfl, -1, rfl, .inl ⟨rfl, fun i hi => (by have := hno i (by omega); omega)⟩⟩
                  case rest =>
                    obtain ⟨rfl, x, rfl, hN⟩ := hcut
                    go_upto_if 106 with fail
                    go_cut [18] (fun e wx => ∃ t' : Nat, e = .int .i64 t' ∧ SlotM S U t' ∧ Below w.heap.size w wx ∧ Lay2 wx w.heap.size (upd K t (some ⟨M + 1 + 1 + 1, secB, dateB, regB, svcB (SS k2 % 24), .slice none 0 0, clk + 1⟩)) S U R (clk + 1))
                    case first =>
                      rcases hN with ⟨rfl, hno⟩ | ⟨j, hj, rfl, hSj, hno⟩
                      · go_wp2_with fail
                        go_loopw [18, 20] (fun e i wr => ∃ (m t' : Nat), 1 ≤ m ∧ m ≤ 16 ∧ i = .int .i64 m ∧ e = .int .i64 t' ∧ SeekM U m t' ∧ Below w.heap.size w wr ∧ Lay2 wr w.heap.size (upd K t (some ⟨M + 1 + 1 + 1, secB, dateB, regB, svcB (SS k2 % 24), .slice none 0 0, clk + 1⟩)) S U R (clk + 1)) (fun _ i _ => 16 - (intOf i).toNat)
                        case atStart => exact ⟨1, 0, by omega, by omega, rfl, rfl, ⟨by omega, fun i hi => by obtain rfl : i = 0 := by omega
                                                                                                             exact ⟨Int.le_refl _, fun h => by omega⟩⟩, hf5, hL6⟩
                        case round =>
                          clear hf5 hL6
                          obtain ⟨m, t', hm1, hm2, rfl, rfl, hSk, hf5, hL6⟩ := hrel
                          have ht16 : t' < 16 := by have := hSk.1; omega
                          have ct : wr.cell? ⟨w.heap.size + 1 + 1, t', none⟩ = some (.int .u64 (U t')) := by rw [hL6.mu.cell, rowV_get _ _ _ ht16]
                          by_cases hm16 : m < 16
                          · have cm : wr.cell? ⟨w.heap.size + 1 + 1, m, none⟩ = some (.int .u64 (U m)) := by rw [hL6.mu.cell, rowV_get _ _ _ hm16]
                            by_cases hl : U m < U t'
                            · have HS := hSk.less hl
                              go_wp2_with fail
                              go_quiet (fail)
                              go_wp2_with fail
                              go_roundw
                              case rel => exact ⟨m + 1, m, by omega, by omega, by go_num, rfl, HS, below_drewN hf5 _, hL6.drewN _⟩
                              case measure => simp [intOf]; omega
                            · have HS := hSk.more hl
                              go_wp2_with fail
                              go_quiet (fail)
                              go_wp2_with fail
                              go_roundw
                              case rel => exact ⟨m + 1, t', by omega, by omega, by go_num, rfl, HS, below_drewN hf5 _, hL6.drewN _⟩
                              case measure => simp [intOf]; omega
                          · have HM : Hid (SlotM S U t') := by
                              obtain rfl : m = 16 := by omega
                              exact ⟨ht16, .inr ⟨fun i hi => by have := hno i hi; omega, hSk.2⟩⟩
                            clear hSk
                            go_wp2_with fail
                            go_meet
                            case rel => exact ⟨t', rfl, HM.out, hf5, hL6⟩
                      · go_wp2_with fail
                        go_meet
                        case rel => exact ⟨j, rfl, ⟨hj, .inl ⟨hSj, fun i hi => (by have := hno i hi; omega)⟩⟩, hf5, hL6⟩
                    case rest =>
                      clear hf5 hL6 hN
                      obtain ⟨t', rfl, hM', hf5, hL6⟩ := hcut
                      obtain rfl : t = t' := hG.slot ht hM'
                      have ht16 := hM'.1
                      have hG6 := hG.new t ht16 ⟨M + 1 + 1 + 1, secB, dateB, regB, svcB (SS k2 % 24), .slice none 0 0, clk + 1⟩ (SS k2 % 24) (by show _ < M + 1 + 1 + 1; omega) hdn (by omega) (by omega) ⟨rfl, rfl, rfl, rfl⟩ rfl
                      have cs : wc.cell? ⟨w.heap.size + 1, t, none⟩ = some (.int .i64 (S t)) := by rw [hL6.ms.cell, rowV_get _ _ _ ht16]
                      have zs := hL6.ms.frozen t
                      have cu : wc.cell? ⟨w.heap.size + 1 + 1, t, none⟩ = some (.int .u64 (U t)) := by rw [hL6.mu.cell, rowV_get _ _ _ ht16]
                      have zu := hL6.mu.frozen t
                      have cr : wc.cell? ⟨w.heap.size + 1 + 1 + 1, t, none⟩ = some (R t) := by rw [hL6.mp.cell, rowV_get _ _ _ ht16]
                      have zr := hL6.mp.frozen t
                      have HL : Hid (Lay2 (((wc.setCell ⟨w.heap.size + 1, t, none⟩ (.int .i64 (SS k2 % 24))).setCell ⟨w.heap.size + 1 + 1, t, none⟩ (.int .u64 (clk + 1))).setCell ⟨w.heap.size + 1 + 1 + 1, t, none⟩ (.pointer (some ⟨M + 1 + 1 + 1, 0, none⟩))) w.heap.size
                          (upd K t (some ⟨M + 1 + 1 + 1, secB, dateB, regB, svcB (SS k2 % 24), .slice none 0 0, clk + 1⟩)) (upd S t (SS k2 % 24)) (upd U t (clk + 1)) (upd R t (.pointer (some ⟨M + 1 + 1 + 1, 0, none⟩))) (clk + 1)) := ((hL6.setS hG6.old t _).setU hG6.old t _).setR hG6.old t _
                      have HG : Hid (Good3 w.heap.size (upd K t (some ⟨M + 1 + 1 + 1, secB, dateB, regB, svcB (SS k2 % 24), .slice none 0 0, clk + 1⟩)) (upd S t (SS k2 % 24)) (upd U t (clk + 1)) (upd R t (.pointer (some ⟨M + 1 + 1 + 1, 0, none⟩))) (clk + 1)) := hG6
                      have hfu : Below w.heap.size w (((wc.setCell ⟨w.heap.size + 1, t, none⟩ (.int .i64 (SS k2 % 24))).setCell ⟨w.heap.size + 1 + 1, t, none⟩ (.int .u64 (clk + 1))).setCell ⟨w.heap.size + 1 + 1 + 1, t, none⟩ (.pointer (some ⟨M + 1 + 1 + 1, 0, none⟩))) :=
                        ((hf5.setCell (by show _ ≤ w.heap.size + 1; omega) _).setCell (by show _ ≤ w.heap.size + 1 + 1; omega) _).setCell (by show _ ≤ w.heap.size + 1 + 1 + 1; omega) _
                      have hne := neq_same
                      clear hL6 hG6 ht hM' hf5
                      go_wp2_with fail
                      go_meet
                      case rel => exact ⟨_, _, _, _, clk + 1, rfl, by omega, hfu, HL.out, HG.out⟩
                · go_wp2_with fail
                  refine (keepB_hit hLd hG (by omega) (by omega) j hj hSj hno ⟨M + 1 + 1 + 1, secB, dateB, regB, svcB (SS k2 % 24), .slice none 0 0, 0⟩ hd ⟨rfl, rfl, rfl, rfl⟩ hdn (by show _ ≠ M + 1 + 1 + 1; omega)).mono ?_
                  rintro x w5 ⟨p, hp, rfl, hb5, hd5, hL5⟩
                  have hf5 := hfd.trans hb5
                  have cr : w5.cell? ⟨w.heap.size + 1 + 1 + 1, j, none⟩ = some (.pointer (some ⟨p.b, 0, none⟩)) := by rw [hL5.mp.cell, rowV_get _ _ _ hj, hG.ptr j, hp]; rfl
                  have cu : w5.cell? ⟨w.heap.size + 1 + 1, j, none⟩ = some (.int .u64 (U j)) := by rw [hL5.mu.cell, rowV_get _ _ _ hj]
                  have zu := hL5.mu.frozen j
                  have cd : w5.cell? ⟨M + 1 + 1 + 1, 10, none⟩ = some (.int .u64 0) := hd5.cell 10
                  have hne := neq_same
                  have hG5 := hG.hit j p hp
                  have HL : Hid (Lay2 (w5.setCell ⟨w.heap.size + 1 + 1, j, none⟩ (.int .u64 clk)) w.heap.size (upd K j (some { p with u := clk })) S (upd U j clk) R clk) := hL5.setU hG5.old j clk
                  have HG : Hid (Good3 w.heap.size (upd K j (some { p with u := clk })) S (upd U j clk) R clk) := hG5
                  have hfu : Below w.heap.size w (w5.setCell ⟨w.heap.size + 1 + 1, j, none⟩ (.int .u64 clk)) := hf5.setCell (by show _ ≤ w.heap.size + 1 + 1; omega) _
                  clear hL5 hG5 hp hSj hno hd hLd hfd hb5 hL3 hf3 hB52 hB54 hz3 hd5
                  go_wp2_with fail
                  refine (u64Load_any _ _ 0 _ (by exact cd)).mono ?_
                  rintro x w6 ⟨rfl, rfl⟩
                  go_wp2_with fail
                  go_meet
                  case rel => exact ⟨_, _, _, _, clk, rfl, by omega, hfu, HL.out, HG.out⟩
            case rest =>
              clear hL3 hf3 hG hE hB52 hB54 hKb hz3 hM hc0 hck K S U R
              obtain ⟨K, S, U, R, clk, rfl, hck, hf, hL, hG⟩ := hcut
              have hclk := hL.tab.clock
              go_wp2_with fail
              refine (u64Load_any _ _ clk _ (by exact hclk)).mono ?_
              rintro x w6 ⟨rfl, rfl⟩
              clear hclk ho s0 s1 s2 s3
              go_wp2_with fail
              go_loopw [21] (fun i wr => ∃ m : Nat, m ≤ 16 ∧ i = .int .i64 m ∧ Below w.heap.size w wr ∧ Lay2 wr w.heap.size K S U R clk) (fun i _ => 16 - (intOf i).toNat)
              case atStart => exact ⟨0, by omega, rfl, hf, hL⟩
              case round =>
                clear hf hL
                obtain ⟨m, hm, rfl, hf, hL⟩ := hrel
                by_cases hm16 : m < 16
                · have ct := hL.tab.slot m hm16
                  have ck : wr.cell? ⟨w.heap.size + 1 + 1 + 1, m, none⟩ = some (ptrV (K m)) := by rw [hL.mp.cell, rowV_get _ _ _ hm16, hG.ptr m]
                  have cu : wr.cell? ⟨w.heap.size + 1 + 1, m, none⟩ = some (.int .u64 (U m)) := by rw [hL.mu.cell, rowV_get _ _ _ hm16]
                  cases hKm : K m with
                  | none =>
                    rw [hKm] at ck ct
                    have ck' : wr.cell? ⟨w.heap.size + 1 + 1 + 1, m, none⟩ = some (.pointer none) := ck
                    have ct' : wr.cell? ⟨w.heap.size, m, none⟩ = some (.pointer none) := ct
                    clear ck ct
                    go_wp2_with fail
                    refine (ptrLoad_nil _ _ _ ct').mono ?_
                    rintro x w7 ⟨rfl, rfl⟩
                    go_wp2_with fail
                    go_quiet (fail)
                    go_wp2_with fail
                    go_roundw
                    case rel => exact ⟨m + 1, by omega, by go_num, below_drewN hf _, hL.drewN _⟩
                    case measure => simp [intOf]; omega
                  | some r =>
                    rw [hKm] at ck ct
                    have ck' : wr.cell? ⟨w.heap.size + 1 + 1 + 1, m, none⟩ = some (.pointer (some ⟨r.b, 0, none⟩)) := ck
                    have ct' : wr.cell? ⟨w.heap.size, m, none⟩ = some (.pointer (some ⟨r.b, 0, none⟩)) := ct
                    clear ck ct
                    have hkb := hL.tab.key m hm16 r hKm
                    have c10 : wr.cell? ⟨r.b, 10, none⟩ = some (.int .u64 r.u) := hkb.cell 10
                    have hu' : (r.u != U m) = false := by simp [hG.used m r hKm]
                    have hne := neq_same
                    go_wp2_with fail
                    refine (ptrLoad_some _ _ _ _ _ ct' hkb rfl).mono ?_
                    rintro x w7 ⟨rfl, rfl⟩
                    go_wp2_with fail
                    go_quiet ((go_at_call 14; exact Calls.quiet_of_same (u64Load_any _ _ r.u _ (by exact c10))))
                    go_wp2_with fail
                    go_roundw
                    case rel => exact ⟨m + 1, by omega, by go_num, below_drewN hf _, hL.drewN _⟩
                    case measure => simp [intOf]; omega
                · go_wp2_with fail
                  go_roundw
                  case rel => exact ⟨k2 + 1, K, S, U, R, clk, by go_num, rfl, by omega, by omega, hf, hL, hG⟩
                  case measure => simp [intOf]; omega
        · go_wp2_with fail
          go_ret
          exact ⟨rfl, hf⟩
end Go.Proofs.Ybulkczsa
