/-
  Memory by whole blocks, over seat b5071a's program: a block that holds numbers, a frame, make and append on a slice that the call made.
-/
import Derived.Test.YbulkczzoProg
import Derived.Test.YbulkczzoPlain
import Derived.WalkKit
import Derived.WalkSpells
import Derived.WalkSmall
import Derived.Deep.OwnRows
namespace Go.Proofs.Ybulkczzo
open Go.RowKit

/-- block b is a plain block of cells c of type t, nothing of it frozen -/
def Blk (w : World) (b : Nat) (t : TypeId) (c : Array Value) : Prop := w.heap[b]? = some (.cells c t)

theorem Blk.cell {w : World} {b : Nat} {t : TypeId} {c : Array Value} (h : Blk w b t c) (i : Nat) : w.cell? ⟨b, i, none⟩ = c[i]? := by
  unfold Blk at h; unfold World.cell?; simp [h]
theorem Blk.frozen {w : World} {b : Nat} {t : TypeId} {c : Array Value} (h : Blk w b t c) (i : Nat) : w.frozen? ⟨b, i, none⟩ = false := by
  unfold Blk at h; unfold World.frozen?; simp [h]
theorem Blk.shape {w : World} {b : Nat} {t : TypeId} {c : Array Value} (h : Blk w b t c) : w.shape? b = some (t, c.size) := by
  unfold Blk at h; unfold World.shape?; simp [h]
theorem Blk.lt {w : World} {b : Nat} {t : TypeId} {c : Array Value} (h : Blk w b t c) : b < w.heap.size := by
  unfold Blk at h
  exact (Array.getElem?_eq_some_iff.1 h).1
theorem Blk.alloc {w : World} {b : Nat} {t : TypeId} {c : Array Value} (h : Blk w b t c) (o : Obj) : Blk (w.alloc o) b t c := by
  have hl := h.lt
  unfold Blk at *
  rw [Below.heap_alloc _ _ _ hl]; exact h
theorem Blk.new (w : World) (t : TypeId) (c : Array Value) : Blk (w.alloc (.cells c t)) w.heap.size t c := by
  unfold Blk World.alloc
  simp
theorem Blk.drew {w : World} {b : Nat} {t : TypeId} {c : Array Value} (h : Blk w b t c) : Blk w.drew b t c := h
theorem Blk.other {w : World} {b : Nat} {t : TypeId} {c : Array Value} (h : Blk w b t c) (b' i : Nat) (v : Value) (hne : b ≠ b') : Blk (w.setCell ⟨b', i, none⟩ v) b t c := by
  unfold Blk at *
  rw [Below.heap_setCell _ _ _ _ hne]; exact h
theorem Blk.same {w : World} {b : Nat} {t : TypeId} {c : Array Value} (h : Blk w b t c) (i : Nat) (v : Value) : Blk (w.setCell ⟨b, i, none⟩ v) b t (c.setIfInBounds i v) := by
  unfold Blk at *
  simp [World.setCell, Array.getElem?_modify, h]
theorem Blk.below {w w' : World} {B b : Nat} {t : TypeId} {c : Array Value} (h : Blk w b t c) (hb : Below B w w') (hl : b < B) : Blk w' b t c := by
  unfold Blk at *
  rw [hb.block b hl]; exact h

/-- from w to w' nothing has turned but blocks of which S speaks; new blocks may lie behind -/
structure Fr (S : Nat → Prop) (w w' : World) : Prop where
  os : w'.os = w.os
  tape : w'.tape = w.tape
  output : w'.output = w.output
  size : w.heap.size ≤ w'.heap.size
  block : ∀ k, k < w.heap.size → ¬ S k → w'.heap[k]? = w.heap[k]?

theorem Fr.refl (S : Nat → Prop) (w : World) : Fr S w w := ⟨rfl, rfl, rfl, Nat.le_refl _, fun _ _ _ => rfl⟩
theorem Fr.trans {S : Nat → Prop} {a b c : World} (h : Fr S a b) (k : Fr S b c) : Fr S a c :=
  ⟨k.os.trans h.os, k.tape.trans h.tape, k.output.trans h.output, Nat.le_trans h.size k.size, fun i hi hs => (k.block i (Nat.lt_of_lt_of_le hi h.size) hs).trans (h.block i hi hs)⟩
theorem Fr.mono {S S' : Nat → Prop} {a b : World} (h : Fr S a b) (hs : ∀ k, S k → S' k) : Fr S' a b :=
  ⟨h.os, h.tape, h.output, h.size, fun i hi hn => h.block i hi (fun g => hn (hs i g))⟩
theorem Fr.drew {S : Nat → Prop} {a b : World} (h : Fr S a b) : Fr S a b.drew := ⟨h.os, h.tape, h.output, h.size, h.block⟩
theorem Fr.drewN {S : Nat → Prop} {a b : World} (h : Fr S a b) (n : Nat) : Fr S a (b.drewN n) := ⟨h.os, h.tape, h.output, h.size, h.block⟩
theorem Fr.alloc {S : Nat → Prop} {a b : World} (h : Fr S a b) (o : Obj) : Fr S a (b.alloc o) :=
  h.trans ⟨rfl, rfl, rfl, by simp, fun k hk _ => Below.heap_alloc _ _ _ hk⟩
theorem Fr.setCell {S : Nat → Prop} {a b : World} (h : Fr S a b) (k i : Nat) (v : Value) (hs : S k) : Fr S a (b.setCell ⟨k, i, none⟩ v) :=
  h.trans ⟨rfl, rfl, rfl, by simp, fun j _ hn => Below.heap_setCell _ _ _ _ (fun e => hn (by subst e; exact hs))⟩
theorem Fr.below {S : Nat → Prop} {a b : World} (h : Fr S a b) (B : Nat) (hB : B ≤ a.heap.size) (hs : ∀ k, S k → B ≤ k) : Below B a b :=
  ⟨h.os, h.tape, h.output, h.size, fun k hk => h.block k (by omega) (fun g => by have := hs k g; omega)⟩
theorem Blk.fr {S : Nat → Prop} {w w' : World} {b : Nat} {t : TypeId} {c : Array Value} (h : Blk w b t c) (f : Fr S w w') (hn : ¬ S b) : Blk w' b t c := by
  have hl := h.lt
  unfold Blk at *
  rw [f.block b hl hn]; exact h


theorem Fr.setNew {S : Nat → Prop} {a b : World} (h : Fr S a b) (k i : Nat) (v : Value) (hk : a.heap.size ≤ k) : Fr S a (b.setCell ⟨k, i, none⟩ v) :=
  ⟨h.os, h.tape, h.output, by simp [h.size], fun j hj hn => (Below.heap_setCell _ _ _ _ (by show j ≠ k; omega)).trans (h.block j hj hn)⟩
theorem Blk.drewN {w : World} {b : Nat} {t : TypeId} {c : Array Value} (h : Blk w b t c) (n : Nat) : Blk (w.drewN n) b t c := h

/-- n cells, the numbers f 0, f 1 .. -/
def rowI (k : IntKind) (n : Nat) (f : Nat → Int) : Array Value := ((List.range n).map fun i => .int k (f i)).toArray
theorem rowI_get (k : IntKind) (n : Nat) (f : Nat → Int) (i : Nat) (h : i < n) : (rowI k n f)[i]? = some (.int k (f i)) := by
  unfold rowI; simp [h]
theorem rowI_size (k : IntKind) (n : Nat) (f : Nat → Int) : (rowI k n f).size = n := by unfold rowI; simp
theorem rowI_set (k : IntKind) (n : Nat) (f : Nat → Int) (j : Nat) (v : Int) : (rowI k n f).setIfInBounds j (.int k v) = rowI k n (upd f j v) := by
  apply Array.ext_getElem?
  intro i
  rw [Array.getElem?_setIfInBounds]
  unfold rowI upd
  by_cases h : j = i
  · subst h; by_cases hk : j < n <;> simp [hk]
  · simp only [h, if_false]
    by_cases hi : i < n
    · simp [hi]; intro e; exact absurd e.symm h
    · simp [hi]
theorem rowI_congr (k : IntKind) (n : Nat) (f g : Nat → Int) (h : ∀ i, i < n → f i = g i) : rowI k n f = rowI k n g := by
  unfold rowI
  rw [List.map_congr_left fun i hi => by rw [h i (List.mem_range.1 hi)]]

/-- a block of numbers -/
def Row (w : World) (b : Nat) (n : Nat) (f : Nat → Int) : Prop := Blk w b 3 (rowI .i64 n f)
theorem Row.cell {w : World} {b n : Nat} {f : Nat → Int} (h : Row w b n f) (i : Nat) (hi : i < n) : w.cell? ⟨b, i, none⟩ = some (.int .i64 (f i)) := by
  rw [Blk.cell h, rowI_get _ _ _ _ hi]
theorem Row.frozen {w : World} {b n : Nat} {f : Nat → Int} (h : Row w b n f) (i : Nat) : w.frozen? ⟨b, i, none⟩ = false := Blk.frozen h i
theorem Row.lt {w : World} {b n : Nat} {f : Nat → Int} (h : Row w b n f) : b < w.heap.size := Blk.lt h
theorem Row.set {w : World} {b n : Nat} {f : Nat → Int} (h : Row w b n f) (i : Nat) (v : Int) : Row (w.setCell ⟨b, i, none⟩ (.int .i64 v)) b n (upd f i v) := by
  have := Blk.same h i (.int .i64 v); rw [rowI_set] at this; exact this
theorem Row.other {w : World} {b n : Nat} {f : Nat → Int} (h : Row w b n f) (b' i : Nat) (v : Value) (hne : b ≠ b') : Row (w.setCell ⟨b', i, none⟩ v) b n f := Blk.other h b' i v hne
theorem Row.alloc {w : World} {b n : Nat} {f : Nat → Int} (h : Row w b n f) (o : Obj) : Row (w.alloc o) b n f := Blk.alloc h o
theorem Row.fr {S : Nat → Prop} {w w' : World} {b n : Nat} {f : Nat → Int} (h : Row w b n f) (g : Fr S w w') (hn : ¬ S b) : Row w' b n f := Blk.fr h g hn
theorem Row.congr {w : World} {b n : Nat} {f g : Nat → Int} (h : Row w b n f) (e : ∀ i, i < n → f i = g i) : Row w b n g := by
  unfold Row at *; rw [← rowI_congr _ _ _ _ e]; exact h

theorem made_row (n : Nat) : madeCells #[.int .i64 0] n = rowI .i64 n (fun _ => 0) := by
  apply Array.ext_getElem?
  intro i
  unfold madeCells rowI
  by_cases h : i < n <;> simp [h, Nat.mod_one]

theorem info3 : ∃ i, Yba.prog.info? 3 = some i ∧ i.zero = some (.int .i64 0) ∧ i.size = 1 ∧ i.bytes = 8 := by
  have h : (Yba.prog.info? 3).map (fun i => (i.zero, i.size, i.bytes)) = some (some (.int .i64 0), 1, 8) := by kernel_rfl
  obtain ⟨i, hi, hz⟩ := Option.map_eq_some_iff.1 h
  simp only [Prod.mk.injEq] at hz
  exact ⟨i, hi, hz.1, hz.2.1, hz.2.2⟩

/-- 'make([]int, l, c)' -/
theorem make_ints (l c : Int) (w : World) (h0 : 0 ≤ l) (h1 : l ≤ c) (h2 : c ≤ 100000) :
    (Instr.makeSlice 40 (.int .i64 l) (.int .i64 c)).run Yba.prog w = .ok (.slice (some ⟨w.heap.size, 0, none⟩) l.toNat c.toNat) (w.alloc (.cells (rowI .i64 c.toNat (fun _ => 0)) 3)) := by
  obtain ⟨i, hi, hz, hs, hb⟩ := info3
  have := run_make (P := Yba.prog) w 40 3 i (.int .i64 0) Yba.underlying40 hi hz .i64 .i64 l c h0 h1 (by rw [hb]; omega) (by omega)
  rw [hs, Nat.mul_one] at this
  rw [this]
  have e : (Value.int .i64 0).cells = #[.int .i64 0] := rfl
  rw [e, made_row]

/-- 'append(s, v)' where there is room -/
theorem append_int (g n cap x : Nat) (v : Int) (u : Value) (w : World) (hx : w.cell? ⟨x, 0, none⟩ = some (.int .i64 v)) (hroom : n + 1 ≤ cap) (hc : w.cell? ⟨g, n, none⟩ = some u) (hf : w.frozen? ⟨g, n, none⟩ = false) :
    (Builtin.append_ #[40, 40] 40 #[.slice (some ⟨g, 0, none⟩) n cap, .slice (some ⟨x, 0, none⟩) 1 1]).run Yba.prog w = .ok (.slice (some ⟨g, 0, none⟩) (n + 1) cap) (w.setCell ⟨g, n, none⟩ (.int .i64 v)) := by
  obtain ⟨i, hi, hz, hs, hb⟩ := info3
  have := run_append_room_cells (P := Yba.prog) w 40 40 3 i Yba.underlying40 hi g 0 n cap ⟨x, 0, none⟩ 1 1 [.int .i64 v] (by rw [hs]; rfl) (by
      intro j u hj
      match j, hj with
      | 0, hj => simp at hj; subst hj; simpa [Addr.add] using hx) (by intro u hu; simp at hu; subst hu; rfl) hroom
      (by intro j hj; simp at hj; subst hj; rw [hs]; simp [hc]) (by intro j hj; simp at hj; subst hj; rw [hs]; simp [hf])
  rw [this, hs]
  simp [World.setCells]
end Go.Proofs.Ybulkczzo
