/-
  Contracts of zzs5071cat, zzs5071ceq, (*localLengths).shrank, grew over seat b5071a's program.
-/
import Derived.Test.YbulkczzoMem
namespace Go.Proofs.Ybulkczzo
open Go.RowKit

/-- what zzs5071cat answers. Not reducible. -/
def atF (n : Nat) (f : Nat → Int) (i : Nat) : Int := if i < n then f i else 0

set_option maxHeartbeats 1000000 in
theorem at_any (b n cap : Nat) (f : Nat → Int) (i : Nat) (w : World) (h : Row w b n f) (_hn : n ≤ 100000) :
    Calls Yba.prog 21 #[.slice (some ⟨b, 0, none⟩) n cap, .int .i64 (i : Int)] w fun e w' => e = .returned (.int .i64 (atF n f i)) ∧ w' = w := by
  unfold atF
  by_cases hi : i < n
  · have hc := h.cell i hi
    clear h
    rw [if_pos hi]
    go_enter Yba.func21, Yba.ntmps21
    go_wp2
    go_ret
    exact ⟨rfl, rfl⟩
  · rw [if_neg hi]
    clear h
    go_enter Yba.func21, Yba.ntmps21
    go_wp2
    go_ret
    exact ⟨rfl, rfl⟩

set_option maxRecDepth 100000 in
set_option maxHeartbeats 1000000 in
theorem eq_true (a b na nb ca cb : Nat) (f g : Nat → Int) (w : World) (ha : Row w a na f) (hb : Row w b nb g) (hna : na ≤ 100000) (hnb : nb ≤ 100000)
    (heq : ∀ i : Nat, i < na ∨ i < nb → atF na f i = atF nb g i) :
    Calls Yba.prog 14 #[.slice (some ⟨a, 0, none⟩) na ca, .slice (some ⟨b, 0, none⟩) nb cb] w fun e w' => e = .returned (.bool true) ∧ w' = w := by
  have key : ∀ i : Nat, i < na ∨ i < nb → (atF na f i != atF nb g i) = false := by
    intro i hi
    have := heq i hi
    simp only [bne_eq_false_iff_eq]
    exact this
  clear heq
  by_cases hc : na < nb
  · go_enter Yba.func14, Yba.ntmps14
    go_wp2_with fail
    go_loop [6] (fun i => ∃ k : Nat, k ≤ nb ∧ i = .int .i64 k) (fun i => nb - (intOf i).toNat)
    case atStart => exact ⟨0, by omega, rfl⟩
    case round =>
      obtain ⟨k, hk, rfl⟩ := hrel
      by_cases hlt : k < nb
      · have hkk := key k (Or.inr hlt)
        clear key
        go_wp2_with fail
        refine (at_any a na ca f k _ ha hna).mono ?_
        rintro e w' ⟨rfl, rfl⟩
        go_wp2_with fail
        refine (at_any b nb cb g k _ hb hnb).mono ?_
        rintro e w' ⟨rfl, rfl⟩
        go_wp2_with fail
        go_round
        case rel => exact ⟨k + 1, by omega, by go_num⟩
        case measure => simp [intOf]; omega
      · clear key
        go_wp2_with fail
        go_ret
        exact ⟨rfl, rfl⟩
  · go_enter Yba.func14, Yba.ntmps14
    go_wp2_with fail
    go_loop [6] (fun i => ∃ k : Nat, k ≤ na ∧ i = .int .i64 k) (fun i => na - (intOf i).toNat)
    case atStart => exact ⟨0, by omega, rfl⟩
    case round =>
      obtain ⟨k, hk, rfl⟩ := hrel
      by_cases hlt : k < na
      · have hkk := key k (Or.inl hlt)
        clear key
        go_wp2_with fail
        refine (at_any a na ca f k _ ha hna).mono ?_
        rintro e w' ⟨rfl, rfl⟩
        go_wp2_with fail
        refine (at_any b nb cb g k _ hb hnb).mono ?_
        rintro e w' ⟨rfl, rfl⟩
        go_wp2_with fail
        go_round
        case rel => exact ⟨k + 1, by omega, by go_num⟩
        case measure => simp [intOf]; omega
      · clear key
        go_wp2_with fail
        go_ret
        exact ⟨rfl, rfl⟩

/-- the counts of localLengths: the struct at block L, its array at block C -/
structure Len (w : World) (L C N : Nat) (c : Nat → Int) (m : Int) : Prop where
  str : Blk w L 43 #[.slice (some ⟨C, 0, none⟩) N N, .int .i64 m]
  row : Row w C N c

theorem Len.ne {w : World} {L C N : Nat} {c : Nat → Int} {m : Int} (h : Len w L C N c m) : L ≠ C := by
  intro e; subst e
  have h1 := h.str; have h2 := h.row
  unfold Row at h2
  unfold Blk at h1 h2
  rw [h1] at h2; simp at h2

/-- counts behind 'count[a]--; count[b]++' -/
def moved (c : Nat → Int) (a b : Nat) : Nat → Int := upd (upd c a (c a - 1)) b (c b + 1)
/-- the longest behind shrank(n) -/
def shrunk (c : Nat → Int) (n : Nat) (m : Int) : Int := if (n : Int) = m ∧ c n - 1 = 0 then m - 1 else m

set_option maxRecDepth 100000 in
set_option maxHeartbeats 1000000 in
theorem shrank_any (L C N n : Nat) (c : Nat → Int) (m : Int) (w : World) (h : Len w L C N c m) (hn1 : 1 ≤ n) (hn2 : n < N) (hN : N ≤ 100000)
    (hc : ∀ i, i < N → -100000 ≤ c i ∧ c i ≤ 100000) (hm0 : 0 ≤ m) (hm1 : m ≤ 100000) :
    Calls Yba.prog 13 #[.pointer (some ⟨L, 0, none⟩), .int .i64 (n : Int)] w fun e w' => e = .returned (.tuple #[]) ∧ Fr (fun b => b = L ∨ b = C) w w' ∧ Len w' L C N (moved c n (n - 1)) (shrunk c n m) := by
  have hne := h.ne
  have s0 : w.cell? ⟨L, 0, none⟩ = some (.slice (some ⟨C, 0, none⟩) N N) := h.str.cell 0
  have s1 : w.cell? ⟨L, 1, none⟩ = some (.int .i64 m) := h.str.cell 1
  have z1 := h.str.frozen 1
  have c0 := h.row.cell n hn2
  have y0 := h.row.frozen n
  have c1 := h.row.cell (n - 1) (by omega)
  have y1 := h.row.frozen (n - 1)
  have b0 := hc n hn2
  have b1 := hc (n - 1) (by omega)
  have hcast : ((n : Int) - 1).toNat = n - 1 := by omega
  have hS : Len ((w.setCell ⟨C, n, none⟩ (.int .i64 (c n - 1))).setCell ⟨C, n - 1, none⟩ (.int .i64 (c (n - 1) + 1))) L C N (moved c n (n - 1)) m :=
    ⟨(h.str.other _ _ _ hne).other _ _ _ hne, by
      have := (h.row.set n (c n - 1)).set (n - 1) (c (n - 1) + 1)
      exact this⟩
  have hF : Fr (fun b => b = L ∨ b = C) w ((w.setCell ⟨C, n, none⟩ (.int .i64 (c n - 1))).setCell ⟨C, n - 1, none⟩ (.int .i64 (c (n - 1) + 1))) :=
    ((Fr.refl _ _).setCell _ _ _ (Or.inr rfl)).setCell _ _ _ (Or.inr rfl)
  have g0 : ((w.setCell ⟨C, n, none⟩ (.int .i64 (c n - 1))).setCell ⟨C, n - 1, none⟩ (.int .i64 (c (n - 1) + 1))).cell? ⟨C, n, none⟩ = some (.int .i64 (c n - 1)) := by
    rw [World.cell?_setCell_other _ _ _ _ (by simp <;> omega)]
    exact World.cell?_setCell_same _ _ _ c0
  clear hc h
  by_cases hnm : (n : Int) = m
  · have hnm' : ((n : Int) == m) = true := by simp [hnm]
    have HN : Hid ((n : Int) = m) := hnm
    clear hnm
    by_cases hz : c n - 1 = 0
    · have hz' : (c n - 1 == 0) = true := by simp [hz]
      have HZ : Hid (c n - 1 = 0) := hz
      clear hz
      go_enter Yba.func13, Yba.ntmps13
      go_wp2_with fail
      go_end0
      refine ⟨rfl, hF.setCell _ _ _ (Or.inl rfl), ?_⟩
      have e : shrunk c n m = m - 1 := by unfold shrunk; rw [if_pos ⟨HN.out, HZ.out⟩]
      rw [e]
      exact ⟨hS.str.same 1 (.int .i64 (m - 1)), hS.row.other _ _ _ (fun h => hne h.symm)⟩
    · have hz' : (c n - 1 == 0) = false := by simp [hz]
      have HZ : Hid (¬ c n - 1 = 0) := hz
      clear hz
      go_enter Yba.func13, Yba.ntmps13
      go_wp2_with fail
      go_end0
      refine ⟨rfl, hF, ?_⟩
      have e : shrunk c n m = m := by unfold shrunk; rw [if_neg (fun h => HZ.out h.2)]
      rw [e]; exact hS
  · have hnm' : ((n : Int) == m) = false := by simp [hnm]
    have HN : Hid (¬ (n : Int) = m) := hnm
    clear hnm
    go_enter Yba.func13, Yba.ntmps13
    go_wp2_with fail
    go_end0
    refine ⟨rfl, hF, ?_⟩
    have e : shrunk c n m = m := by unfold shrunk; rw [if_neg (fun h => HN.out h.1)]
    rw [e]; exact hS

set_option maxRecDepth 100000 in
set_option maxHeartbeats 1000000 in
theorem grew_any (L C N n : Nat) (c : Nat → Int) (m : Int) (w : World) (h : Len w L C N c m) (hn2 : n + 1 < N) (hN : N ≤ 100000)
    (hc : ∀ i, i < N → -100000 ≤ c i ∧ c i ≤ 100000) :
    Calls Yba.prog 15 #[.pointer (some ⟨L, 0, none⟩), .int .i64 (n : Int)] w fun e w' => e = .returned (.tuple #[]) ∧ Fr (fun b => b = L ∨ b = C) w w' ∧ Len w' L C N (moved c n (n + 1)) (if m < n + 1 then (n : Int) + 1 else m) := by
  have hne := h.ne
  have s0 : w.cell? ⟨L, 0, none⟩ = some (.slice (some ⟨C, 0, none⟩) N N) := h.str.cell 0
  have s1 : w.cell? ⟨L, 1, none⟩ = some (.int .i64 m) := h.str.cell 1
  have z1 := h.str.frozen 1
  have c0 := h.row.cell n (by omega)
  have y0 := h.row.frozen n
  have c1 := h.row.cell (n + 1) (by omega)
  have y1 := h.row.frozen (n + 1)
  have b0 := hc n (by omega)
  have b1 := hc (n + 1) (by omega)
  have hcast : ((n : Int) + 1).toNat = n + 1 := by omega
  have hS : Len ((w.setCell ⟨C, n, none⟩ (.int .i64 (c n - 1))).setCell ⟨C, n + 1, none⟩ (.int .i64 (c (n + 1) + 1))) L C N (moved c n (n + 1)) m :=
    ⟨(h.str.other _ _ _ hne).other _ _ _ hne, by
      have := (h.row.set n (c n - 1)).set (n + 1) (c (n + 1) + 1)
      exact this⟩
  have hF : Fr (fun b => b = L ∨ b = C) w ((w.setCell ⟨C, n, none⟩ (.int .i64 (c n - 1))).setCell ⟨C, n + 1, none⟩ (.int .i64 (c (n + 1) + 1))) :=
    ((Fr.refl _ _).setCell _ _ _ (Or.inr rfl)).setCell _ _ _ (Or.inr rfl)
  clear hc h
  go_enter Yba.func15, Yba.ntmps15
  go_wp2_with fail
  all_goals
    go_end0
    exact ⟨rfl, hF.setCell _ _ _ (Or.inl rfl), hS.str.same 1 _, hS.row.other _ _ _ (fun h => hne h.symm)⟩
end Go.Proofs.Ybulkczzo
