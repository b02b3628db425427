/-
  Contracts of zzs5057asuffix and zzs5057amodel over seat b5057a's program.
-/
import Derived.Test.YbulkczsaPort
import Derived.Deep.Light
namespace Go.Proofs.Ybulkczsa

/-! ### plain laws: a suffix, byte by byte -/
/-- byte i of s as a number, 0 behind its end -/
def byteAt (s : ByteArray) (i : Nat) : Int := ((s.data.toList.getD i 0).toNat : Int)

theorem byteAt_eq (s : ByteArray) (i : Nat) (h : i < s.size) : ((s[i]'h).toNat : Int) = byteAt s i := by
  unfold byteAt
  have h' : i < s.data.toList.length := by simpa using h
  rw [List.getD_eq_getElem?_getD, List.getElem?_eq_getElem h']
  rfl

theorem u8_int (a b : UInt8) : a = b ↔ (a.toNat : Int) = (b.toNat : Int) := by
  constructor
  · intro h; rw [h]
  · intro h; exact UInt8.toNat_inj.mp (by omega)

theorem drop4 (l : List UInt8) (h : 4 ≤ l.length) :
    l.drop (l.length - 4) = [l.getD (l.length - 4) 0, l.getD (l.length - 3) 0, l.getD (l.length - 2) 0, l.getD (l.length - 1) 0] := by
  apply List.ext_getElem?
  intro i
  rw [List.getElem?_drop]
  match i with
  | 0 => simp [List.getD_eq_getElem?_getD, List.getElem?_eq_getElem (show l.length - 4 < l.length by omega)]
  | 1 => rw [show l.length - 4 + 1 = l.length - 3 by omega]; simp [List.getD_eq_getElem?_getD, List.getElem?_eq_getElem (show l.length - 3 < l.length by omega)]
  | 2 => rw [show l.length - 4 + 2 = l.length - 2 by omega]; simp [List.getD_eq_getElem?_getD, List.getElem?_eq_getElem (show l.length - 2 < l.length by omega)]
  | 3 => rw [show l.length - 4 + 3 = l.length - 1 by omega]; simp [List.getD_eq_getElem?_getD, List.getElem?_eq_getElem (show l.length - 1 < l.length by omega)]
  | k + 4 => rw [List.getElem?_eq_none (by omega)]; simp

theorem drop3 (l : List UInt8) (h : 3 ≤ l.length) :
    l.drop (l.length - 3) = [l.getD (l.length - 3) 0, l.getD (l.length - 2) 0, l.getD (l.length - 1) 0] := by
  apply List.ext_getElem?
  intro i
  rw [List.getElem?_drop]
  match i with
  | 0 => simp [List.getD_eq_getElem?_getD, List.getElem?_eq_getElem (show l.length - 3 < l.length by omega)]
  | 1 => rw [show l.length - 3 + 1 = l.length - 2 by omega]; simp [List.getD_eq_getElem?_getD, List.getElem?_eq_getElem (show l.length - 2 < l.length by omega)]
  | 2 => rw [show l.length - 3 + 2 = l.length - 1 by omega]; simp [List.getD_eq_getElem?_getD, List.getElem?_eq_getElem (show l.length - 1 < l.length by omega)]
  | k + 3 => rw [List.getElem?_eq_none (by omega)]; simp

theorem suf443 (s : ByteArray) : sufB s ⟨#[58, 52, 52, 51]⟩ = true ↔
    4 ≤ s.size ∧ byteAt s (s.size - 4) = 58 ∧ byteAt s (s.size - 3) = 52 ∧ byteAt s (s.size - 2) = 52 ∧ byteAt s (s.size - 1) = 51 := by
  rw [sufB_iff, Lib.size_eq]
  unfold byteAt
  show [58, 52, 52, 51] <:+ _ ↔ _
  generalize s.data.toList = l
  constructor
  · intro h
    have hl : 4 ≤ l.length := h.length_le
    have hd := drop4 l hl
    rw [show l.drop (l.length - 4) = [58, 52, 52, 51] from (List.suffix_iff_eq_drop.mp h).symm] at hd
    simp only [List.cons.injEq, and_true] at hd
    obtain ⟨h1, h2, h3, h4⟩ := hd
    rw [← h1, ← h2, ← h3, ← h4]
    exact ⟨hl, rfl, rfl, rfl, rfl⟩
  · rintro ⟨hl, h1, h2, h3, h4⟩
    rw [List.suffix_iff_eq_drop]
    show _ = l.drop (l.length - 4)
    rw [drop4 l hl, (u8_int _ 58).mpr h1, (u8_int _ 52).mpr h2, (u8_int _ 52).mpr h3, (u8_int _ 51).mpr h4]

theorem suf80 (s : ByteArray) : sufB s ⟨#[58, 56, 48]⟩ = true ↔
    3 ≤ s.size ∧ byteAt s (s.size - 3) = 58 ∧ byteAt s (s.size - 2) = 56 ∧ byteAt s (s.size - 1) = 48 := by
  rw [sufB_iff, Lib.size_eq]
  unfold byteAt
  show [58, 56, 48] <:+ _ ↔ _
  generalize s.data.toList = l
  constructor
  · intro h
    have hl : 3 ≤ l.length := h.length_le
    have hd := drop3 l hl
    rw [show l.drop (l.length - 3) = [58, 56, 48] from (List.suffix_iff_eq_drop.mp h).symm] at hd
    simp only [List.cons.injEq, and_true] at hd
    obtain ⟨h1, h2, h3⟩ := hd
    rw [← h1, ← h2, ← h3]
    exact ⟨hl, rfl, rfl, rfl⟩
  · rintro ⟨hl, h1, h2, h3⟩
    rw [List.suffix_iff_eq_drop]
    show _ = l.drop (l.length - 3)
    rw [drop3 l hl, (u8_int _ 58).mpr h1, (u8_int _ 56).mpr h2, (u8_int _ 48).mpr h3]

theorem portS_a (s : ByteArray) (h : 4 ≤ s.size ∧ byteAt s (s.size - 4) = 58 ∧ byteAt s (s.size - 3) = 52 ∧ byteAt s (s.size - 2) = 52 ∧ byteAt s (s.size - 1) = 51) :
    s.extract 0 (s.size - 4) = portS s := by
  unfold portS; rw [if_pos ((suf443 s).mpr h)]

theorem portS_b (s : ByteArray) (h : 3 ≤ s.size ∧ byteAt s (s.size - 3) = 58 ∧ byteAt s (s.size - 2) = 56 ∧ byteAt s (s.size - 1) = 48) :
    s.extract 0 (s.size - 3) = portS s := by
  unfold portS; rw [if_neg (fun g => by have := (suf443 s).mp g; omega), if_pos ((suf80 s).mpr h)]

theorem portS_c (s : ByteArray) (h : ¬ (4 ≤ s.size ∧ byteAt s (s.size - 4) = 58 ∧ byteAt s (s.size - 3) = 52 ∧ byteAt s (s.size - 2) = 52 ∧ byteAt s (s.size - 1) = 51))
    (h2 : ¬ (3 ≤ s.size ∧ byteAt s (s.size - 3) = 58 ∧ byteAt s (s.size - 2) = 56 ∧ byteAt s (s.size - 1) = 48)) : s = portS s := by
  unfold portS; rw [if_neg (fun g => h ((suf443 s).mp g)), if_neg (fun g => h2 ((suf80 s).mp g))]

theorem ret_str {a b : ByteArray} (h : a = b) : Ending.returned (.string a) = .returned (.string b) := by rw [h]

set_option maxHeartbeats 1000000 in
theorem suffix_any (k : Int) (w : World) :
    Calls Yba.prog 8 #[.int .i64 k] w fun e w' => ∃ q : ByteArray, q.size ≤ 7 ∧ e = .returned (.string q) ∧ w' = w := by
  go_enter Yba.func8, Yba.ntmps8
  go_wp2
  all_goals
    go_ret
    exact ⟨_, by decide, rfl, rfl⟩

set_option maxHeartbeats 1000000 in
theorem model_any (s : ByteArray) (w : World) (hs : s.size ≤ maxLen) :
    Calls Yba.prog 10 #[.string s] w fun e w' => e = .returned (.string (portS s)) ∧ w' = w := by
  unfold maxLen at hs
  go_enter Yba.func10, Yba.ntmps10
  go_wp2
  all_goals
    go_ret
    refine ⟨ret_str ?_, rfl⟩
    go_light
    try simp only [byteAt_eq, beq_iff_eq, beq_eq_false_iff_ne, ne_eq] at *
    first
      | (refine portS_a s ?_; omega)
      | (refine portS_b s ?_; omega)
      | (refine portS_c s ?_ ?_ <;> omega)
end Go.Proofs.Ybulkczsa
