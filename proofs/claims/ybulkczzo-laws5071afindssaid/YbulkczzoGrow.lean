/-
  The contract of zzs5071abuild over seat b5071a's program, by induction on the number of keys.
-/
import Derived.Test.YbulkczzoNodes
import Derived.Deep.RegionLaw
namespace Go.Proofs.Ybulkczzo
open Go.RowKit

theorem hide {p : Prop} (h : p) : Hid p := h

/-- append onto a slice that the call owns, as one step of a region that draws: room or not -/
theorem step_append_own {P : Program} {ops : Array Oper} {o : Oper} {a : Act} {w : World} {K : Act → World → Prop} {Q : Exit → Act → World → Prop} {E : Prop}
    (hg : o.guard = none) (s x : Operand) (t : TypeId) (hop : o.op = Op.call { callee := Callee.builtin Builtin.append, args := #[s, x], argTypes := #[t, t] })
    (base : Nat) (e : TypeId) (i : TypeInfo) (z : Value) (size bytes : Nat) (h1 : P.underlying t = some (.slice e)) (h2 : P.info? e = some i) (h3 : i.zero = some z) (h4 : i.size = size) (h5 : i.bytes = bytes) (h6 : z.cells.size = size) (h7 : 0 < size)
    (v : Value) (n : Nat) (xs : List Value) (hs : a.eval s = v) (hown : w.ownsRow base e size v n xs)
    (ad : Addr) (m c : Nat) (news : List Value) (hx : a.eval x = .slice (some ad) m c) (hn : news.length = m * size) (hc : ∀ j u, news[j]? = some u → w.cell? (ad.add j) = some u) (h1c : ∀ u ∈ news, u.oneCell' = true)
    (b1 : n + m ≤ maxLen) (b2 : (n + m) * bytes ≤ 140737488355328) (hb : base ≤ w.heap.size)
    (hK : ∀ v' w', w'.ownsRow base e size v' (n + m) (xs ++ news) → w.grownBy w' v.ownBlock → K (a.put o.dst v') w') :
    if Region.wanted o (yielded ops a.tmps) = true then Oper.wp P o a w K Q else E := by
  have hw : Region.wanted o (yielded ops a.tmps) = true := by simp [Region.wanted, hg]
  rw [if_pos hw]
  obtain ⟨v', w', hrun, r1, r2, _⟩ := run_append_own (P := P) w base t o.type e i z size bytes h1 h2 h3 h4 h5 h6 h7 v n xs hown ad m c news hn hc h1c b1 b2 hb
  unfold Oper.wp
  simp [execOp, hop, resolve, invoke, builtin, hs, hx, hrun, Result.andThen]
  exact hK v' w' r1 r2

theorem info35 : ∃ i, Yba.prog.info? 35 = some i ∧ i.zero = some (.agg #[.int .i64 0, .int .u64 0, .int .i64 0, .int .i64 0]) ∧ i.size = 4 ∧ i.bytes = 32 := by
  have h : (Yba.prog.info? 35).map (fun i => (i.zero, i.size, i.bytes)) = some (some (.agg #[.int .i64 0, .int .u64 0, .int .i64 0, .int .i64 0]), 4, 32) := by kernel_rfl
  obtain ⟨i, hi, hz⟩ := Option.map_eq_some_iff.1 h
  simp only [Prod.mk.injEq] at hz
  exact ⟨i, hi, hz.1, hz.2.1, hz.2.2⟩

/-- what the build is told of the keys and the selectors: how they are indexed, and what their cells hold in the world w0 -/
structure Src (w0 : World) (T : Nat) (ksv : Value) (K : Nat) (kb ko : Nat) (ks : Nat → Int) (sa : Option Addr) (sl sc sb so : Nat) (z : Nat → Int) : Prop where
  kidx : ∀ m : Nat, m < K → ∀ w', (Instr.indexAt 22 ksv (.int .i64 (m : Int))).run Yba.prog w' = .ok (.pointer (some ⟨kb, ko + m, none⟩)) w'
  kcell : ∀ m : Nat, m < K → kb < T ∧ w0.cell? ⟨kb, ko + m, none⟩ = some (.int .i64 (ks m))
  sidx : ∀ m : Nat, m < sl → ∀ w', (Instr.indexAt 23 (.slice sa sl sc) (.int .i64 (m : Int))).run Yba.prog w' = .ok (.pointer (some ⟨sb, so + m, none⟩)) w'
  scell : ∀ m : Nat, m < sl → sb < T ∧ w0.cell? ⟨sb, so + m, none⟩ = some (.int .u8 (z m)) ∧ 0 ≤ z m ∧ z m ≤ 255

theorem Nd.base {w : World} {T g cap n : Nat} {V L R : Nat → Int} {rt : Int} (h : Nd w (T + 1) T g cap n V L R rt) : T + 1 ≤ g ∧ g < w.heap.size := h.own.lt g rfl

theorem nodeCells_push (V L R : Nat → Int) (n : Nat) (x : Int) :
    nodeCells V L R n ++ [.int .i64 x, .int .u64 0, .int .i64 (-1), .int .i64 (-1)] = nodeCells (upd V n x) (upd L n (-1)) (upd R n (-1)) (n + 1) := by
  rw [nodeCells_succ, upd_same, upd_same, upd_same]
  congr 1
  exact nodeCells_congr _ _ _ _ _ _ _ (fun i hi => ⟨(upd_other _ _ _ _ (by omega)).symm, (upd_other _ _ _ _ (by omega)).symm, (upd_other _ _ _ _ (by omega)).symm⟩)

/-- the struct behind the append: one node more -/
theorem Nd.pushed {wa w' : World} {T g cap n : Nat} {V L R : Nat → Int} {rt : Int} (h : Nd wa (T + 1) T g cap n V L R rt) (x : Int) (g' cap' : Nat)
    (ho : w'.ownsRow (T + 1) 35 4 (.slice (some ⟨g', 0, none⟩) (n + 1) cap') (n + 1) (nodeCells V L R n ++ [.int .i64 x, .int .u64 0, .int .i64 (-1), .int .i64 (-1)])) (hg : wa.grownBy w' (some g)) :
    Blk w' T 29 #[.slice (some ⟨g, 0, none⟩) n cap, .int .i64 rt, .int .i64 (-1), .int .u64 0] ∧ Below T wa w' ∧
    Nd (w'.setCell ⟨T, 0, none⟩ (.slice (some ⟨g', 0, none⟩) (n + 1) cap')) (T + 1) T g' cap' (n + 1) (upd V n x) (upd L n (-1)) (upd R n (-1)) rt := by
  have hb := h.base
  have hT : Blk w' T 29 #[.slice (some ⟨g, 0, none⟩) n cap, .int .i64 rt, .int .i64 (-1), .int .u64 0] := by
    have h1 := h.str
    have hl := h1.lt
    unfold Blk at *
    rw [hg.block T hl (by simp; omega)]; exact h1
  refine ⟨hT, ⟨hg.os, hg.tape, hg.output, hg.size, fun k hk => hg.block k (by omega) (by simp; omega)⟩, ⟨hT.same 0 _, ?_⟩⟩
  rw [← nodeCells_push]
  exact ownsRow_setCell_below ho (by show T < T + 1; omega) _

theorem own_form {w : World} {B n : Nat} {xs : List Value} {v : Value} (h : w.ownsRow B 35 4 v (n + 1) xs) : ∃ g cap, v = .slice (some ⟨g, 0, none⟩) (n + 1) cap := by
  rcases h.2 with ⟨_, h⟩ | ⟨g, cap, _, h, _⟩
  · omega
  · exact ⟨g, cap, h⟩

theorem nodeCells_set (V L R V' L' R' : Nat → Int) (n i j : Nat) (u : Value) (hi : i < n) (hj : j < 4)
    (ho : ∀ k, k < n → k ≠ i → V' k = V k ∧ L' k = L k ∧ R' k = R k)
    (hs : ([.int .i64 (V i), .int .u64 0, .int .i64 (L i), .int .i64 (R i)] : List Value).set j u = [.int .i64 (V' i), .int .u64 0, .int .i64 (L' i), .int .i64 (R' i)]) :
    (nodeCells V L R n).set (i * 4 + j) u = nodeCells V' L' R' n := by
  induction n with
  | zero => omega
  | succ n ih =>
    rw [nodeCells_succ, nodeCells_succ]
    by_cases e : i = n
    · subst e
      rw [List.set_append_right _ _ (by rw [nodeCells_length]; omega), nodeCells_length, show i * 4 + j - i * 4 = j by omega, hs]
      congr 1
      exact nodeCells_congr _ _ _ _ _ _ _ (fun k hk => by
        obtain ⟨a, b, c⟩ := ho k (by omega) (by omega)
        exact ⟨a.symm, b.symm, c.symm⟩)
    · obtain ⟨a, b, c⟩ := ho n (by omega) (fun h => e h.symm)
      rw [List.set_append_left _ _ (by rw [nodeCells_length]; omega), ih (by omega) (fun k hk => ho k (by omega)), a, b, c]

/-- both links of node i set -/
theorem Nd.linked {w : World} {T g cap n : Nat} {V L R : Nat → Int} {rt : Int} (h : Nd w (T + 1) T g cap n V L R rt) (i : Nat) (hi : i < n) (l r : Int) :
    Nd ((w.setCell ⟨g, i * 4 + 2, none⟩ (.int .i64 l)).setCell ⟨g, i * 4 + 3, none⟩ (.int .i64 r)) (T + 1) T g cap n V (upd L i l) (upd R i r) rt := by
  have hb := h.base
  refine ⟨(h.str.other _ _ _ (by omega)).other _ _ _ (by omega), ?_⟩
  have h1 := (h.own.stored (i * 4 + 2) (.int .i64 l)).1
  rw [nodeCells_set V L R V (upd L i l) R n i 2 (.int .i64 l) hi (by omega) (fun k _ hne => ⟨rfl, upd_other _ _ _ _ hne, rfl⟩) (by rw [upd_same]; rfl)] at h1
  have h2 := (h1.stored (i * 4 + 3) (.int .i64 r)).1
  rw [nodeCells_set V (upd L i l) R V (upd L i l) (upd R i r) n i 3 (.int .i64 r) hi (by omega) (fun k _ hne => ⟨rfl, rfl, upd_other _ _ _ _ hne⟩) (by rw [upd_same, upd_same]; rfl)] at h2
  exact h2

set_option maxRecDepth 100000 in
set_option maxHeartbeats 4000000 in
theorem build_tree (w0 : World) (T : Nat) (ksv : Value) (K kb ko : Nat) (ks : Nat → Int) (sa : Option Addr) (sl sc sb so : Nat) (z : Nat → Int) (hs : Src w0 T ksv K kb ko ks sa sl sc sb so z) (rt : Int) (hK : K ≤ 2000) (hsl : sl ≤ 2000) :
    ∀ (d lo hi n g cap : Nat) (V L R : Nat → Int) (w : World), hi - lo ≤ d → lo ≤ hi → hi ≤ K → 1 ≤ n → n ≤ 3000 - (hi - lo) → Below T w0 w → Nd w (T + 1) T g cap n V L R rt →
      Calls Yba.prog 20 #[.pointer (some ⟨T, 0, none⟩), ksv, .slice sa sl sc, .int .i64 (lo : Int), .int .i64 (hi : Int)] w fun e w' =>
        ∃ (k : Int) (g' cap' : Nat) (V' L' R' : Nat → Int), e = .returned (.int .i64 k) ∧ Below T w w' ∧ Nd w' (T + 1) T g' cap' (n + (hi - lo)) V' L' R' rt ∧
          (∀ i, i < n → V' i = V i ∧ L' i = L i ∧ R' i = R i) ∧ Tree ks V' L' R' n (n + (hi - lo)) d k lo hi := by
  intro d
  induction d with
  | zero =>
    intro lo hi n g cap V L R w h1 h2 h3 h4 h5 hB hN
    have hge : hi ≤ lo := by omega
    clear hs
    go_enter Yba.func20, Yba.ntmps20
    go_wp2_with fail
    go_ret
    have e : n + (hi - lo) = n := by omega
    rw [e]
    exact ⟨-1, g, cap, V, L, R, rfl, Below.refl _ _, hN, fun _ _ => ⟨rfl, rfl, rfl⟩, rfl, hge⟩
  | succ d ih =>
    intro lo hi n g cap V L R w h1 h2 h3 h4 h5 hB hN
    by_cases hlt : lo < hi
    · have IH := hide ih
      clear ih
      have s0 : w.cell? ⟨T, 0, none⟩ = some (.slice (some ⟨g, 0, none⟩) n cap) := hN.str.cell 0
      have HS := hide hs
      clear hs
      go_enter Yba.func20, Yba.ntmps20
      go_upto_if 26 with fail
      go_cut [11] (fun mv wx => wx = w ∧ ∃ m : Nat, mv = .int .i64 (m : Int) ∧ lo ≤ m ∧ m < hi)
      case first =>
        by_cases hs0 : 0 < sl
        · obtain ⟨j, hj⟩ : ∃ j : Nat, ((lo : Int) + (hi : Int)) % (sl : Int) = (j : Int) := ⟨(((lo : Int) + (hi : Int)) % (sl : Int)).toNat, by have := Int.emod_nonneg ((lo : Int) + (hi : Int)) (show (sl : Int) ≠ 0 by omega); omega⟩
          have hjl : j < sl := by have := Int.emod_lt_of_pos ((lo : Int) + (hi : Int)) (show (0 : Int) < sl by omega); omega
          obtain ⟨hsb, hsc, hz0, hz1⟩ := HS.out.scell j hjl
          have hix := HS.out.sidx j hjl
          have cz : w.cell? ⟨sb, so + j, none⟩ = some (.int .u8 (z j)) := by rw [hB.cell hsb]; exact hsc
          obtain ⟨y, hy⟩ : ∃ y : Nat, z j % ((hi : Int) - (lo : Int)) = (y : Int) := ⟨(z j % ((hi : Int) - (lo : Int))).toNat, by have := Int.emod_nonneg (z j) (show (hi : Int) - (lo : Int) ≠ 0 by omega); omega⟩
          have hyl : y < hi - lo := by have := Int.emod_lt_of_pos (z j) (show (0 : Int) < (hi : Int) - (lo : Int) by omega); omega
          clear hsc
          go_wp2_with fail
          go_meet
          case rel => exact ⟨rfl, lo + y, by go_num, by omega, by omega⟩
        · go_wp2_with fail
          go_meet
          case rel => exact ⟨rfl, lo + (hi - lo) / 2, by go_num, by omega, by omega⟩
      case rest =>
        obtain ⟨rfl, m, rfl, hm1, hm2⟩ := hcut
        have hkx := HS.out.kidx m (by omega)
        have hkc := HS.out.kcell m (by omega)
        have ck : wc.cell? ⟨kb, ko + m, none⟩ = some (.int .i64 (ks m)) := by rw [hB.cell hkc.1]; exact hkc.2
        clear hkc
        obtain ⟨i0, hi0, hz0, hsz0, hby0⟩ := info35
        have hNa : Nd (wc.alloc (.cells #[.int .i64 (ks m), .int .u64 0, .int .i64 (-1), .int .i64 (-1)] 35)).drew (T + 1) T g cap n V L R rt := ⟨hN.str.alloc _, hN.own.alloc _⟩
        have HNA := hide hNa
        have hnw : ∀ j u, ([.int .i64 (ks m), .int .u64 0, .int .i64 (-1), .int .i64 (-1)] : List Value)[j]? = some u → (wc.alloc (.cells #[.int .i64 (ks m), .int .u64 0, .int .i64 (-1), .int .i64 (-1)] 35)).drew.cell? ((⟨wc.heap.size, 0, none⟩ : Addr).add j) = some u := by
          intro j u hu
          have := (Blk.new wc 35 #[.int .i64 (ks m), .int .u64 0, .int .i64 (-1), .int .i64 (-1)]).cell j
          rw [Addr.add_lit, Nat.zero_add]
          show (wc.alloc (.cells #[.int .i64 (ks m), .int .u64 0, .int .i64 (-1), .int .i64 (-1)] 35)).cell? ⟨wc.heap.size, j, none⟩ = _
          rw [this]; simpa using hu
        have HNW := hide hnw
        have hon : ∀ u ∈ ([.int .i64 (ks m), .int .u64 0, .int .i64 (-1), .int .i64 (-1)] : List Value), u.oneCell' = true := by
          intro u hu; simp at hu; rcases hu with rfl | rfl | rfl | rfl <;> rfl
        have HON := hide hon
        have hTl := hN.str.lt
        clear hNa hnw hon
        go_upto_region 7 with fail
        go_cut [12] (fun iv wx => iv = .int .i64 (n : Int) ∧ Below T wc wx ∧ ∃ g' cap', Nd wx (T + 1) T g' cap' (n + 1) (upd V n (ks m)) (upd L n (-1)) (upd R n (-1)) rt)
        case first =>
          go_region_law (refine step_append_own rfl (.tmp 52) (.tmp 58) 24 rfl (T + 1) 35 i0 _ 4 32 Yba.underlying24 hi0 hz0 hsz0 hby0 rfl (by decide) (.slice (some ⟨g, 0, none⟩) n cap) n (nodeCells V L R n) (by simp [Act.eval]) HNA.out.own ⟨wc.heap.size, 0, none⟩ 1 1 [.int .i64 (ks m), .int .u64 0, .int .i64 (-1), .int .i64 (-1)] (by simp [Act.eval]) rfl HNW.out HON.out (by unfold maxLen; omega) (by omega) (by simp; omega) ?_; intro v' w' hown' hgr; obtain ⟨g', cap', rfl⟩ := own_form hown'; have hp := HNA.out.pushed (ks m) g' cap' hown' hgr; have k0 : w'.cell? ⟨T, 0, none⟩ = some (.slice (some ⟨g, 0, none⟩) n cap) := hp.1.cell 0; have z0 := hp.1.frozen 0; have HP := hide hp; clear hp hown' hgr)
          all_goals
            go_wp2_with fail
            go_meet
            case rel => exact ⟨rfl, (((Below.refl T wc).alloc (by omega) _).drew.trans HP.out.2.1).setCell (Nat.le_refl _) _, g', cap', HP.out.2.2⟩
        case rest =>
          obtain ⟨rfl, hB1, g1, cap1, hN1⟩ := hcut
          clear HNA HNW HON s0 hkx ck hN
          have hBa := hB.trans hB1
          go_wp2_with fail
          refine (IH.out lo m (n + 1) g1 cap1 _ _ _ wc (by omega) (by omega) (by omega) (by omega) (by omega) hBa hN1).mono ?_
          rintro e w2 ⟨l, g2, cap2, V2, L2, R2, rfl, hB2, hN2, hsame2, ht2⟩
          have hBb := hBa.trans hB2
          have hcall := IH.out (m + 1) hi (n + 1 + (m - lo)) g2 cap2 V2 L2 R2 w2 (by omega) (by omega) (by omega) (by omega) (by omega) hBb hN2
          rw [show ((m + 1 : Nat) : Int) = (m : Int) + 1 from by omega] at hcall
          have HT2 := hide ht2
          have HS2 := hide hsame2
          clear ht2 hsame2
          go_wp2_with fail
          refine hcall.mono ?_
          rintro e w3 ⟨r, g3, cap3, V3, L3, R3, rfl, hB3, hN3, hsame3, ht3⟩
          have HT3 := hide ht3
          have HS3 := hide hsame3
          clear ht3 hsame3 hcall IH HS
          have en : n + 1 + (m - lo) + (hi - (m + 1)) = n + (hi - lo) := by omega
          rw [en] at hN3
          have HT3' := HT3.out
          rw [en] at HT3'
          have HT4 := hide HT3'
          clear HT3 HT3'
          have hlk := hide (hN3.linked n (by omega) l r)
          have hb3 := hN3.base
          have s3 : w3.cell? ⟨T, 0, none⟩ = some (.slice (some ⟨g3, 0, none⟩) (n + (hi - lo)) cap3) := hN3.str.cell 0
          have cl := hN3.left n (by omega)
          have zl := hN3.own.frozenAt (n * 4 + 2)
          have cr := hN3.right n (by omega)
          have zr := hN3.own.frozenAt (n * 4 + 3)
          have hTg : T ≠ g3 := by omega
          have hlen3 : (n : Int) < ((n + (hi - lo) : Nat) : Int) := by omega
          have hBc := (hB1.trans hB2).trans hB3
          clear en hN3
          generalize hn3 : n + (hi - lo) = n3 at s3 hlen3 hlk HT4
          have HN3 := hide hn3
          clear hn3
          go_wp2_with fail
          go_ret
          have hn3 := HN3.out
          have hs2 := HS2.out
          have hs3 := HS3.out
          refine ⟨n, g3, cap3, V3, upd L3 n l, upd R3 n r, rfl, (hBc.setCell (by show T ≤ g3; omega) _).setCell (by show T ≤ g3; omega) _, ?_, ?_, ?_⟩
          · rw [hn3]; exact hlk.out
          · intro i hi'
            obtain ⟨a1, a2, a3⟩ := hs3 i (by omega)
            obtain ⟨b1, b2, b3⟩ := hs2 i (by omega)
            rw [upd_other _ _ _ _ (by omega)] at b1 b2 b3
            rw [upd_other _ _ _ _ (by omega), upd_other _ _ _ _ (by omega)]
            exact ⟨a1.trans b1, a2.trans b2, a3.trans b3⟩
          · rw [hn3]
            refine Or.inr ⟨n, m, rfl, hm1, hm2, Nat.le_refl _, by omega, ?_, ?_, ?_⟩
            · rw [(hs3 n (by omega)).1, (hs2 n (by omega)).1, upd_same]
            · rw [upd_same]
              refine HT2.out.carry (by omega) (by omega) (fun i g1 g2 => ?_)
              obtain ⟨a1, a2, a3⟩ := hs3 i (by omega)
              rw [upd_other _ _ _ _ (by omega), upd_other _ _ _ _ (by omega)]
              exact ⟨a1, a2, a3⟩
            · rw [upd_same]
              refine HT4.out.carry (by omega) (by omega) (fun i g1 g2 => ?_)
              rw [upd_other _ _ _ _ (by omega), upd_other _ _ _ _ (by omega)]
              exact ⟨rfl, rfl, rfl⟩
    · have hge : hi ≤ lo := by omega
      clear hs ih
      go_enter Yba.func20, Yba.ntmps20
      go_wp2_with fail
      go_ret
      have e : n + (hi - lo) = n := by omega
      rw [e]
      exact ⟨-1, g, cap, V, L, R, rfl, Below.refl _ _, hN, fun _ _ => ⟨rfl, rfl, rfl⟩, Tree.none hge⟩
end Go.Proofs.Ybulkczzo
