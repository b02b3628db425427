/-
  The contract of (*keyTable).keep over seat b5057a's program: one goroutine, the lock free.
-/
import Derived.Test.YbulkczsaFind
import Derived.Test.YbulkczsaLocks
import Derived.Deep.RegionWith
import Derived.Deep.DeepCutAuto
import Derived.Deep.CutBlock
import Derived.WalkSmall
import Derived.Defers
namespace Go.Proofs.Ybulkczsa
open Go.RowKit Go.MuLone

/-- f with another value at k -/
def upd {α : Type} (f : Nat → α) (k : Nat) (v : α) : Nat → α := fun i => if i = k then v else f i
theorem upd_same {α : Type} (f : Nat → α) (k : Nat) (v : α) : upd f k v k = v := by simp [upd]
theorem upd_other {α : Type} (f : Nat → α) (k i : Nat) (v : α) (h : i ≠ k) : upd f k v i = f i := by simp [upd, h]

theorem tab_set (K : Nat → Option KK) (clk st : Int) (k : Nat) (v : Option KK) (h : k < 16) : (tabCells K clk st).setIfInBounds k (ptrV v) = tabCells (upd K k v) clk st := by
  apply Array.ext_getElem?
  intro i
  rw [Array.getElem?_setIfInBounds]
  unfold tabCells upd
  by_cases e : k = i
  · subst e; simp [List.getElem?_append, h]; omega
  · simp only [e, if_false]
    by_cases hi : i < 16
    · simp [List.getElem?_append, hi]; rw [if_neg (fun g => e g.symm)]
    · simp [List.getElem?_append, hi]

theorem tab_st_set (K : Nat → Option KK) (clk st v : Int) : (tabCells K clk st).setIfInBounds 17 (.int .i32 v) = tabCells K clk v := rfl
theorem tab_clk_set (K : Nat → Option KK) (clk st v : Int) : (tabCells K clk st).setIfInBounds 16 (.int .u64 v) = tabCells K v st := rfl

/-- a statement that ends only by running to its end: whatever else is asked of another end -/
theorem wp_noexit {P : Program} {c : Code} {K : Act → World → Prop} {Q : Exit → Act → World → Prop} {a : Act} {w : World} (h : c.wp P (Exit.then K (fun _ _ _ => False)) a w) : c.wp P (Exit.then K Q) a w := by
  refine wp_mono h ?_
  intro e a w hh
  cases e <;> first | exact hh | exact hh.elim

/-- the use mark of the key in slot i -/
def uOf (K : Nat → Option KK) (i : Nat) : Int := match K i with | some q => q.u | none => 0

/-- the slot that a new key goes into -/
def Slot (K : Nat → Option KK) (s : Nat) : Prop :=
  s < 16 ∧ ((K s = none ∧ ∀ i, i < s → ∃ q, K i = some q) ∨ ((∀ i, i < 16 → ∃ q, K i = some q) ∧ ∀ i, i < 16 → uOf K s ≤ uOf K i ∧ (i < s → uOf K s < uOf K i)))

set_option maxRecDepth 100000 in
set_option maxHeartbeats 2000000 in
theorem keep_hit (T : Nat) (K : Nat → Option KK) (clk : Int) (d : KK) (w : World) (hT : Tab w T K clk 0) (hd : Blk w d.b 62 d.cells)
    (j : Nat) (p : KK) (hj : j < 16) (hp : K j = some p) (hps : p.s0 = d.s0 ∧ p.s1 = d.s1 ∧ p.s2 = d.s2 ∧ p.s3 = d.s3)
    (hno : ∀ i, i < j → ∀ k, K i = some k → ¬ (k.s0 = d.s0 ∧ k.s1 = d.s1 ∧ k.s2 = d.s2 ∧ k.s3 = d.s3)) :
    Calls Yba.prog 13 #[.pointer (some ⟨T, 0, none⟩), .pointer (some ⟨d.b, 0, none⟩)] w fun e w' =>
      e = .returned (.pointer (some ⟨p.b, 0, none⟩)) ∧ Fr (fun b => b = T ∨ b = p.b) w w' ∧ Blk w' T 47 (tabCells K clk 0) ∧ Blk w' p.b 62 ({ p with u := clk } : KK).cells := by
  have hst : w.cell? ⟨T, 17, none⟩ = some (.int .i32 0) := by rw [hT.tab.cell, tab_st]
  have hsz := hT.tab.frozen 17
  go_enter_defers Yba.func13, Yba.ntmps13
  go_wp2_with fail
  refine (lock_free muLib ⟨T, 17, none⟩ w hst hsz).mono ?_
  rintro e w1 ⟨rfl, hw1⟩
  have hb1 : Blk w1 T 47 (tabCells K clk 1) := by rw [hw1]; have := hT.tab.same 17 (.int .i32 1); rw [tab_st_set] at this; exact this
  have hf1 : Fr (fun b => b = T) w w1 := by rw [hw1]; exact (Fr.refl _ _).setCell _ _ _ rfl
  have hne : ∀ b c, Blk w b 62 c → b ≠ T := fun b c h e => by
    subst e; have h1 := h; have h2 := hT.tab; unfold Blk at h1 h2; rw [h1] at h2; cases h2
  have hT1 : Tab w1 T K clk 1 := ⟨hb1, fun i hi k hk => (hT.key i hi k hk).fr hf1 (hne _ _ (hT.key i hi k hk))⟩
  have hd1 := hd.fr hf1 (hne _ _ hd)
  have c0 : w1.cell? ⟨d.b, 0, none⟩ = some (.string d.s0) := hd1.cell 0
  have c1 : w1.cell? ⟨d.b, 1, none⟩ = some (.string d.s1) := hd1.cell 1
  have c2 : w1.cell? ⟨d.b, 2, none⟩ = some (.string d.s2) := hd1.cell 2
  have c3 : w1.cell? ⟨d.b, 3, none⟩ = some (.string d.s3) := hd1.cell 3
  have hpT := hne _ _ (hT.key j hj p hp)
  clear hw1
  go_wp2_with fail
  refine (find_hit T K clk 1 d.s0 d.s1 d.s2 d.s3 w1 hT1 j p hj hp hps hno).mono ?_
  rintro e w2 ⟨rfl, hf2, hB2⟩
  have hb2 := hb1.fr hf2 (fun h => hpT h.symm)
  have hf : Fr (fun b => b = T ∨ b = p.b) w w2 := (hf1.mono (fun _ h => Or.inl h)).trans (hf2.mono (fun _ h => Or.inr h))
  have hst2 : w2.cell? ⟨T, 17, none⟩ = some (.int .i32 1) := by rw [hb2.cell, tab_st]
  have hsz2 := hb2.frozen 17
  clear c0 c1 c2 c3 hps hno hf2 hf1 hne
  go_wp2_with fail
  refine leaves_cons (f := 21) (args := #[.pointer (some ⟨T, 17, none⟩)]) (by simp) (by simp [go_sem]) ?_
  refine (unlock_deferred muLib ⟨T, 17, none⟩ .returning w2 hst2 hsz2).mono ?_
  rintro e u' w3 ⟨rfl, rfl, hw3⟩
  have hb3 : Blk w3 T 47 (tabCells K clk 0) := by rw [hw3]; have := hb2.same 17 (.int .i32 0); rw [tab_st_set] at this; exact this
  have hB3 : Blk w3 p.b 62 ({ p with u := clk } : KK).cells := by rw [hw3]; exact hB2.other _ _ _ hpT
  have hf3 : Fr (fun b => b = T ∨ b = p.b) w w3 := by rw [hw3]; exact hf.setCell _ _ _ (Or.inl rfl)
  exact ⟨_, results_tmp rfl _ _ _, rfl, hf3, hb3, hB3⟩

theorem uOf_some {K : Nat → Option KK} {i : Nat} {q : KK} (h : K i = some q) : uOf K i = q.u := by unfold uOf; rw [h]

/-- the search for a slot, k slots seen -/
def Seek (K : Nat → Option KK) (k s : Nat) (lv : Int) : Prop :=
  (∀ i, i < k → ∃ q, K i = some q) ∧ s < 16 ∧ ((k = 0 ∧ s = 0 ∧ ∀ i q, K i = some q → q.u < lv) ∨ (s < k ∧ lv = uOf K s ∧ ∀ i, i < k → uOf K s ≤ uOf K i ∧ (i < s → uOf K s < uOf K i)))

theorem Seek.less {K : Nat → Option KK} {k s : Nat} {lv : Int} {q : KK} (h : Seek K k s lv) (hq : K k = some q) (hk : k < 16) (hl : q.u < lv) : Seek K (k + 1) k q.u := by
  obtain ⟨h1, h2, h3⟩ := h
  have hu := uOf_some hq
  refine ⟨fun i hi => ?_, hk, Or.inr ⟨by omega, hu.symm, fun i hi => ?_⟩⟩
  · by_cases e : i = k
    · subst e; exact ⟨q, hq⟩
    · exact h1 i (by omega)
  · by_cases e : i = k
    · subst e; exact ⟨by omega, by omega⟩
    · rcases h3 with ⟨h4, _⟩ | ⟨h4, h5, h6⟩
      · omega
      · have := h6 i (by omega); omega

theorem Seek.more {K : Nat → Option KK} {k s : Nat} {lv : Int} {q : KK} (h : Seek K k s lv) (hq : K k = some q) (hl : ¬ q.u < lv) : Seek K (k + 1) s lv := by
  obtain ⟨h1, h2, h3⟩ := h
  have hu := uOf_some hq
  refine ⟨fun i hi => ?_, h2, ?_⟩
  · by_cases e : i = k
    · subst e; exact ⟨q, hq⟩
    · exact h1 i (by omega)
  · rcases h3 with ⟨h4, h5, h6⟩ | ⟨h4, h5, h6⟩
    · exact absurd (h6 k q hq) hl
    · refine Or.inr ⟨by omega, h5, fun i hi => ?_⟩
      by_cases e : i = k
      · subst e; exact ⟨by omega, by omega⟩
      · exact h6 i (by omega)

theorem Seek.nil {K : Nat → Option KK} {k s : Nat} {lv : Int} (h : Seek K k s lv) (hq : K k = none) (hk : k < 16) : Slot K k := ⟨hk, Or.inl ⟨hq, h.1⟩⟩
theorem Seek.full {K : Nat → Option KK} {s : Nat} {lv : Int} (h : Seek K 16 s lv) : Slot K s := by
  obtain ⟨h1, h2, h3⟩ := h
  rcases h3 with ⟨h4, _⟩ | ⟨h4, h5, h6⟩
  · omega
  · exact ⟨h2, Or.inr ⟨h1, h6⟩⟩

set_option maxRecDepth 100000 in
set_option maxHeartbeats 2000000 in
theorem keep_new (T : Nat) (K : Nat → Option KK) (clk : Int) (d : KK) (w : World) (hT : Tab w T K clk 0) (hd : Blk w d.b 62 d.cells) (hk0 : 0 ≤ clk) (hk1 : clk ≤ 100000)
    (hu : ∀ i q, K i = some q → 0 ≤ q.u ∧ q.u ≤ 100000)
    (hno : ∀ i, i < 16 → ∀ k, K i = some k → ¬ (k.s0 = d.s0 ∧ k.s1 = d.s1 ∧ k.s2 = d.s2 ∧ k.s3 = d.s3)) :
    Calls Yba.prog 13 #[.pointer (some ⟨T, 0, none⟩), .pointer (some ⟨d.b, 0, none⟩)] w fun e w' =>
      e = .returned (.pointer (some ⟨d.b, 0, none⟩)) ∧ Fr (fun b => b = T ∨ b = d.b) w w' ∧
        ∃ s, Slot K s ∧ Blk w' T 47 (tabCells (upd K s (some { d with u := clk + 1 })) (clk + 1) 0) ∧ Blk w' d.b 62 ({ d with u := clk + 1 } : KK).cells := by
  have hst : w.cell? ⟨T, 17, none⟩ = some (.int .i32 0) := by rw [hT.tab.cell, tab_st]
  have hsz := hT.tab.frozen 17
  go_enter_defers Yba.func13, Yba.ntmps13
  go_wp2_with fail
  refine (lock_free muLib ⟨T, 17, none⟩ w hst hsz).mono ?_
  rintro e w1 ⟨rfl, hw1⟩
  have hb1 : Blk w1 T 47 (tabCells K clk 1) := by rw [hw1]; have := hT.tab.same 17 (.int .i32 1); rw [tab_st_set] at this; exact this
  have hf1 : Fr (fun b => b = T) w w1 := by rw [hw1]; exact (Fr.refl _ _).setCell _ _ _ rfl
  have hne : ∀ b c, Blk w b 62 c → b ≠ T := fun b c h e => by
    subst e; have h1 := h; have h2 := hT.tab; unfold Blk at h1 h2; rw [h1] at h2; cases h2
  have hT1 : Tab w1 T K clk 1 := ⟨hb1, fun i hi k hk => (hT.key i hi k hk).fr hf1 (hne _ _ (hT.key i hi k hk))⟩
  have hd1 := hd.fr hf1 (hne _ _ hd)
  have c0 : w1.cell? ⟨d.b, 0, none⟩ = some (.string d.s0) := hd1.cell 0
  have c1 : w1.cell? ⟨d.b, 1, none⟩ = some (.string d.s1) := hd1.cell 1
  have c2 : w1.cell? ⟨d.b, 2, none⟩ = some (.string d.s2) := hd1.cell 2
  have c3 : w1.cell? ⟨d.b, 3, none⟩ = some (.string d.s3) := hd1.cell 3
  have hdT := hne _ _ hd
  clear hw1
  go_wp2_with fail
  refine (find_miss T K clk 1 d.s0 d.s1 d.s2 d.s3 w1 hT1 hno).mono ?_
  rintro e w2 ⟨rfl, hf2⟩
  have hT2 := hT1.fr hf2 (fun _ _ h => h)
  have hd2 := hd1.fr hf2 (fun h => h)
  have hf : Fr (fun b => b = T ∨ b = d.b) w w2 := (hf1.mono (fun _ h => Or.inl h)).trans (hf2.mono (fun _ h => h.elim))
  clear c0 c1 c2 c3 hno hf2 hf1 hne hT1 hb1 hd1 hT hst hsz hd
  go_upto_block 0 with fail
  go_cut [6, 7, 8, 9, 10] from 27 to 48 (fun s _ _ _ _ wx => wx = w2 ∧ ∃ sn : Nat, s = .int .i64 sn ∧ Slot K sn)
  case first =>
    go_wp2_with fail
    go_loop [6, 7, 27] (fun s l i => ∃ (k sn : Nat) (lv : Int), k ≤ 16 ∧ i = .int .i64 k ∧ s = .int .i64 sn ∧ l = .int .u64 lv ∧ Seek K k sn lv) (fun _ _ i => 16 - (intOf i).toNat)
    case atStart => exact ⟨0, 0, _, by omega, rfl, rfl, rfl, fun i hi => by omega, by omega, Or.inl ⟨rfl, rfl, fun i q hq => by have := hu i q hq; omega⟩⟩
    case round =>
      obtain ⟨k, sn, lv, hk, rfl, rfl, rfl, hS⟩ := hrel
      by_cases hlt : k < 16
      · have hslot := hT2.slot k hlt
        cases hK : K k with
        | none =>
          rw [hK] at hslot
          have hslot' : w2.cell? ⟨T, k, none⟩ = some (.pointer none) := hslot
          clear hslot
          go_wp2_with fail
          refine (ptrLoad_nil _ _ _ hslot').mono ?_
          rintro e w' ⟨rfl, rfl⟩
          go_wp2_with fail
          go_meet
          case rel => exact ⟨rfl, k, rfl, hS.nil hK hlt⟩
        | some q =>
          rw [hK] at hslot
          have hslot' : w2.cell? ⟨T, k, none⟩ = some (.pointer (some ⟨q.b, 0, none⟩)) := hslot
          clear hslot
          have hkb := hT2.key k hlt q hK
          have c10 : w2.cell? ⟨q.b, 10, none⟩ = some (.int .u64 q.u) := hkb.cell 10
          by_cases hl : q.u < lv
          · have HS := hS.less hK hlt hl
            go_wp2_with fail
            refine (ptrLoad_some _ _ _ _ _ hslot' hkb rfl).mono ?_
            rintro e w' ⟨rfl, rfl⟩
            go_wp2_with fail
            refine (u64Load_any _ _ q.u _ (by exact c10)).mono ?_
            rintro e w2 ⟨rfl, rfl⟩
            go_wp2_with fail
            go_round
            case rel => exact ⟨k + 1, k, q.u, by omega, by go_num, rfl, rfl, HS⟩
            case measure => simp [intOf]; omega
          · have HS := hS.more hK hl
            go_wp2_with fail
            refine (ptrLoad_some _ _ _ _ _ hslot' hkb rfl).mono ?_
            rintro e w' ⟨rfl, rfl⟩
            go_wp2_with fail
            refine (u64Load_any _ _ q.u _ (by exact c10)).mono ?_
            rintro e w2 ⟨rfl, rfl⟩
            go_wp2_with fail
            go_round
            case rel => exact ⟨k + 1, sn, lv, by omega, by go_num, rfl, rfl, HS⟩
            case measure => simp [intOf]; omega
      · have hk16 : k = 16 := by omega
        have HF : Slot K sn := by rw [hk16] at hS; exact hS.full
        clear hk16
        go_wp2_with fail
        go_meet
        case rel => exact ⟨rfl, sn, rfl, HF⟩
  case rest =>
    obtain ⟨rfl, s, rfl, hs⟩ := hcut
    have hs16 := hs.1
    have zd := hd2.frozen 10
    have hclk := hT2.clock
    have zclk := hT2.tab.frozen 16
    go_wp2_with fail
    refine wp_noexit ?_
    go_region_with (first | (go_at_call 22; refine (u64Add_any _ _ clk 1 _ (by exact hclk) (by exact zclk) (by omega) (by omega)).mono ?_; rintro e w' ⟨rfl, rfl⟩) | (go_at_call 16; refine (u64Store_any _ _ _ (.int .u64 d.u) _ (by exact (hd2.other T 16 (.int .u64 (clk + 1)) hdT).cell 10) (by exact (hd2.other T 16 (.int .u64 (clk + 1)) hdT).frozen 10)).mono ?_; rintro e w' ⟨rfl, rfl⟩))
    go_wp2_with fail
    have hTa : Blk ((wc.setCell ⟨T, 16, none⟩ (.int .u64 (clk + 1))).setCell ⟨d.b, 10, none⟩ (.int .u64 (clk + 1))).drew T 47 (tabCells K (clk + 1) 1) := by
      have := (hT2.tab.same 16 (.int .u64 (clk + 1))).other d.b 10 (.int .u64 (clk + 1)) (fun h => hdT h.symm)
      rw [tab_clk_set] at this; exact this
    have hda : Blk ((wc.setCell ⟨T, 16, none⟩ (.int .u64 (clk + 1))).setCell ⟨d.b, 10, none⟩ (.int .u64 (clk + 1))).drew d.b 62 ({ d with u := clk + 1 } : KK).cells :=
      (hd2.other T 16 (.int .u64 (clk + 1)) hdT).same 10 (.int .u64 (clk + 1))
    have hfa : Fr (fun b => b = T ∨ b = d.b) w ((wc.setCell ⟨T, 16, none⟩ (.int .u64 (clk + 1))).setCell ⟨d.b, 10, none⟩ (.int .u64 (clk + 1))).drew :=
      ((hf.setCell _ _ _ (Or.inl rfl)).setCell _ _ _ (Or.inr rfl)).drew
    refine (ptrStore_any _ _ _ (ptrV (K s)) (.string d.s0) _ (by rw [hTa.cell, tab_slot _ _ _ _ hs16]) (hTa.frozen _) (hda.cell 0)).mono ?_
    rintro e w3 ⟨rfl, hw3⟩
    have hTb : Blk w3 T 47 (tabCells (upd K s (some { d with u := clk + 1 })) (clk + 1) 1) := by
      rw [hw3]; have := hTa.same s (ptrV (some { d with u := clk + 1 })); rw [tab_set _ _ _ _ _ hs16] at this; exact this
    have hdb : Blk w3 d.b 62 ({ d with u := clk + 1 } : KK).cells := by rw [hw3]; exact hda.other _ _ _ hdT
    have hfb : Fr (fun b => b = T ∨ b = d.b) w w3 := by rw [hw3]; exact hfa.setCell _ _ _ (Or.inl rfl)
    have hst3 : w3.cell? ⟨T, 17, none⟩ = some (.int .i32 1) := by rw [hTb.cell, tab_st]
    have hsz3 := hTb.frozen 17
    clear hw3 hTa hda hfa hT2 hd2 hclk zclk zd hf
    go_wp2_with fail
    refine leaves_cons (f := 21) (args := #[.pointer (some ⟨T, 17, none⟩)]) (by simp) (by simp [go_sem]) ?_
    refine (unlock_deferred muLib ⟨T, 17, none⟩ .returning w3 hst3 hsz3).mono ?_
    rintro e u' w4 ⟨rfl, rfl, hw4⟩
    have hTc : Blk w4 T 47 (tabCells (upd K s (some { d with u := clk + 1 })) (clk + 1) 0) := by
      rw [hw4]; have := hTb.same 17 (.int .i32 0); rw [tab_st_set] at this; exact this
    have hdc : Blk w4 d.b 62 ({ d with u := clk + 1 } : KK).cells := by rw [hw4]; exact hdb.other _ _ _ hdT
    have hfc : Fr (fun b => b = T ∨ b = d.b) w w4 := by rw [hw4]; exact hfb.setCell _ _ _ (Or.inl rfl)
    exact ⟨_, results_tmp rfl _ _ _, rfl, hfc, s, hs, hTc, hdc⟩
end Go.Proofs.Ybulkczsa
