/-
  Contracts of stringslite.HasSuffix, CutSuffix, strings.CutSuffix and withoutDefaultPort over seat b5057a's program.
-/
import Derived.Test.YbulkczsaProg
import Derived.WalkKit
import Derived.WalkSpells
import Derived.Lib.Strings
namespace Go.Proofs.Ybulkczsa

/-- the suffix test, as the Go text computes it. Not reducible. -/
def sufB (s p : ByteArray) : Bool := decide (p.size ≤ s.size) && ((s.extract (s.size - p.size) s.size).toList == p.toList)

theorem sufB_le {s p : ByteArray} (h : sufB s p = true) : p.size ≤ s.size := by
  unfold sufB at h
  simp only [Bool.and_eq_true, decide_eq_true_eq] at h
  exact h.1

set_option maxHeartbeats 1000000 in
theorem hasSuffix_any (s p : ByteArray) (w : World) (hs : s.size ≤ maxLen) :
    Calls Yba.prog 31 #[.string s, .string p] w fun e w' => e = .returned (.bool (sufB s p)) ∧ w' = w := by
  unfold maxLen at hs
  unfold sufB
  go_enter Yba.func31, Yba.ntmps31
  go_wp2
  · have h : p.size ≤ s.size := by assumption
    go_ret
    refine ⟨?_, rfl⟩
    show Ending.returned (Value.bool ((s.extract (s.size - p.size) s.size).toList == p.toList)) = _
    simp [h]
  · have h : ¬ p.size ≤ s.size := by assumption
    go_ret
    refine ⟨?_, rfl⟩
    show Ending.returned (Value.bool false) = _
    simp [h]

set_option maxHeartbeats 1000000 in
theorem cutSuffix_yes (s p : ByteArray) (w : World) (hs : s.size ≤ maxLen) (h : sufB s p = true) :
    Calls Yba.prog 27 #[.string s, .string p] w fun e w' => e = .returned (.tuple #[.string (s.extract 0 (s.size - p.size)), .bool true]) ∧ w' = w := by
  have hle := sufB_le h
  have hs' := hs
  unfold maxLen at hs
  go_enter Yba.func27, Yba.ntmps27
  go_wp2_with (go_at_call 31; refine (hasSuffix_any _ _ _ hs').mono ?_; rintro e w' ⟨rfl, rfl⟩)
  go_ret2
  exact ⟨rfl, rfl⟩

set_option maxHeartbeats 1000000 in
theorem cutSuffix_no (s p : ByteArray) (w : World) (hs : s.size ≤ maxLen) (h : sufB s p = false) :
    Calls Yba.prog 27 #[.string s, .string p] w fun e w' => e = .returned (.tuple #[.string s, .bool false]) ∧ w' = w := by
  go_enter Yba.func27, Yba.ntmps27
  go_wp2_with (go_at_call 31; refine (hasSuffix_any _ _ _ hs).mono ?_; rintro e w' ⟨rfl, rfl⟩)
  go_ret2
  exact ⟨rfl, rfl⟩

set_option maxHeartbeats 1000000 in
theorem stringsCutSuffix_yes (s p : ByteArray) (w : World) (hs : s.size ≤ maxLen) (h : sufB s p = true) :
    Calls Yba.prog 19 #[.string s, .string p] w fun e w' => e = .returned (.tuple #[.string (s.extract 0 (s.size - p.size)), .bool true]) ∧ w' = w := by
  go_enter Yba.func19, Yba.ntmps19
  go_wp2_with (go_at_call 27; refine (cutSuffix_yes _ _ _ hs h).mono ?_; rintro e w' ⟨rfl, rfl⟩)
  go_ret2
  exact ⟨rfl, rfl⟩

set_option maxHeartbeats 1000000 in
theorem stringsCutSuffix_no (s p : ByteArray) (w : World) (hs : s.size ≤ maxLen) (h : sufB s p = false) :
    Calls Yba.prog 19 #[.string s, .string p] w fun e w' => e = .returned (.tuple #[.string s, .bool false]) ∧ w' = w := by
  go_enter Yba.func19, Yba.ntmps19
  go_wp2_with (go_at_call 27; refine (cutSuffix_no _ _ _ hs h).mono ?_; rintro e w' ⟨rfl, rfl⟩)
  go_ret2
  exact ⟨rfl, rfl⟩

set_option maxHeartbeats 1000000 in
theorem port_443 (s : ByteArray) (w : World) (hs : s.size ≤ maxLen) (h : sufB s ⟨#[58, 52, 52, 51]⟩ = true) :
    Calls Yba.prog 9 #[.string s] w fun e w' => e = .returned (.string (s.extract 0 (s.size - 4))) ∧ w' = w := by
  go_enter Yba.func9, Yba.ntmps9
  go_wp2_with fail
  refine (stringsCutSuffix_yes _ _ _ hs h).mono ?_
  rintro e w' ⟨rfl, rfl⟩
  go_wp2_with fail
  go_ret
  exact ⟨rfl, rfl⟩

set_option maxHeartbeats 1000000 in
theorem port_80 (s : ByteArray) (w : World) (hs : s.size ≤ maxLen) (h : sufB s ⟨#[58, 52, 52, 51]⟩ = false) (h2 : sufB s ⟨#[58, 56, 48]⟩ = true) :
    Calls Yba.prog 9 #[.string s] w fun e w' => e = .returned (.string (s.extract 0 (s.size - 3))) ∧ w' = w := by
  go_enter Yba.func9, Yba.ntmps9
  go_wp2_with fail
  refine (stringsCutSuffix_no _ _ _ hs h).mono ?_
  rintro e w' ⟨rfl, rfl⟩
  go_wp2_with fail
  refine (stringsCutSuffix_yes _ _ _ hs h2).mono ?_
  rintro e w' ⟨rfl, rfl⟩
  go_wp2_with fail
  go_ret
  exact ⟨rfl, rfl⟩

set_option maxHeartbeats 1000000 in
theorem port_no (s : ByteArray) (w : World) (hs : s.size ≤ maxLen) (h : sufB s ⟨#[58, 52, 52, 51]⟩ = false) (h2 : sufB s ⟨#[58, 56, 48]⟩ = false) :
    Calls Yba.prog 9 #[.string s] w fun e w' => e = .returned (.string s) ∧ w' = w := by
  go_enter Yba.func9, Yba.ntmps9
  go_wp2_with fail
  refine (stringsCutSuffix_no _ _ _ hs h).mono ?_
  rintro e w' ⟨rfl, rfl⟩
  go_wp2_with fail
  refine (stringsCutSuffix_no _ _ _ hs h2).mono ?_
  rintro e w' ⟨rfl, rfl⟩
  go_wp2_with fail
  go_ret
  exact ⟨rfl, rfl⟩

/-- what withoutDefaultPort returns. Not reducible. -/
def portS (s : ByteArray) : ByteArray :=
  if sufB s ⟨#[58, 52, 52, 51]⟩ then s.extract 0 (s.size - 4) else if sufB s ⟨#[58, 56, 48]⟩ then s.extract 0 (s.size - 3) else s

theorem port_any (s : ByteArray) (w : World) (hs : s.size ≤ maxLen) :
    Calls Yba.prog 9 #[.string s] w fun e w' => e = .returned (.string (portS s)) ∧ w' = w := by
  unfold portS
  cases h : sufB s ⟨#[58, 52, 52, 51]⟩
  · cases h2 : sufB s ⟨#[58, 56, 48]⟩
    · exact port_no s w hs h h2
    · exact port_80 s w hs h h2
  · exact port_443 s w hs h

/-! ### plain laws on suffixes -/
theorem sufB_iff (s p : ByteArray) : sufB s p = true ↔ p.data.toList <:+ s.data.toList := by
  have h : sufB s p = Lib.hasSuffix s.data.toList p.data.toList := Lib.hasSuffix_raw s p
  rw [h]; unfold Lib.hasSuffix
  exact List.isSuffixOf_iff_suffix

theorem app_list (a q : ByteArray) : (a ++ q).data.toList = a.data.toList ++ q.data.toList := by
  simp [ByteArray.data_append]

theorem sufB_app (a q : ByteArray) : sufB (a ++ q) q = true := by
  rw [sufB_iff, app_list]
  exact List.suffix_append _ _

/-- 'r' ends 'p', is no longer than 'q' and does not end 'q': then 'p' does not end 'a ++ q' -/
theorem sufB_not (a p q : ByteArray) (r : List UInt8) (h1 : r <:+ p.data.toList) (h2 : r.length ≤ q.data.toList.length) (h3 : ¬ r <:+ q.data.toList) : sufB (a ++ q) p = false := by
  rw [Bool.eq_false_iff]
  intro h
  rw [sufB_iff, app_list] at h
  exact h3 (List.suffix_of_suffix_length_le (h1.trans h) (List.suffix_append _ _) h2)

theorem ba_ext {a b : ByteArray} (h : a.data.toList = b.data.toList) : a = b := by
  cases a; cases b
  simp only [ByteArray.mk.injEq]
  exact Array.toList_inj.mp h

theorem extract_app (a q : ByteArray) (n : Nat) (h : q.size = n) : (a ++ q).extract 0 ((a ++ q).size - n) = a := by
  subst h
  apply ba_ext
  rw [Lib.extract_data, app_list]
  simp [ByteArray.size_append]

theorem portS_443 (a : ByteArray) : portS (a ++ ⟨#[58, 52, 52, 51]⟩) = a := by
  unfold portS
  rw [if_pos (sufB_app _ _)]
  exact extract_app _ _ _ rfl

theorem portS_80 (a : ByteArray) : portS (a ++ ⟨#[58, 56, 48]⟩) = a := by
  unfold portS
  rw [if_neg (by rw [sufB_not a ⟨#[58, 52, 52, 51]⟩ ⟨#[58, 56, 48]⟩ [51] (by decide) (by decide) (by decide)]; decide), if_pos (sufB_app _ _)]
  exact extract_app _ _ _ rfl

theorem portS_8080 (a : ByteArray) : portS (a ++ ⟨#[58, 56, 48, 56, 48]⟩) = a ++ ⟨#[58, 56, 48, 56, 48]⟩ := by
  unfold portS
  rw [if_neg (by rw [sufB_not a ⟨#[58, 52, 52, 51]⟩ ⟨#[58, 56, 48, 56, 48]⟩ [51] (by decide) (by decide) (by decide)]; decide),
    if_neg (by rw [sufB_not a ⟨#[58, 56, 48]⟩ ⟨#[58, 56, 48, 56, 48]⟩ [58, 56, 48] (by decide) (by decide) (by decide)]; decide)]
end Go.Proofs.Ybulkczsa
