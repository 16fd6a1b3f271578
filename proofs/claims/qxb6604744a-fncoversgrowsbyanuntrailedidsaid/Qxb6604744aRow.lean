/- Rows of cells that the law fills, and the plain law. -/
import Derived.Test.Qxb6604744aNewSig
namespace Go.Proofs.Qxb6604744a
open Go.RowKit
set_option linter.unusedVariables false

/-- A row of n cells, what each holds. -/
def Row (w : World) (g n : Nat) (t : TypeId) (f : Nat → Value) : Prop := ∃ arr : Array Value, w.heap[g]? = some (.cells arr t) ∧ arr.size = n ∧ ∀ j, j < n → arr[j]? = some (f j)

theorem Row.cell {w : World} {g n : Nat} {t : TypeId} {f : Nat → Value} (h : Row w g n t f) (j : Nat) (hj : j < n) : w.cell? ⟨g, j, none⟩ = some (f j) := by
  obtain ⟨arr, h1, h2, h3⟩ := h
  rw [row_cell h1]
  exact h3 j hj
theorem Row.free {w : World} {g n : Nat} {t : TypeId} {f : Nat → Value} (h : Row w g n t f) (j : Nat) : w.frozen? ⟨g, j, none⟩ = false := by
  obtain ⟨arr, h1, _⟩ := h
  exact row_free h1 j
theorem Row.lt {w : World} {g n : Nat} {t : TypeId} {f : Nat → Value} (h : Row w g n t f) : g < w.heap.size := by
  obtain ⟨arr, h1, _⟩ := h
  exact (Array.getElem?_eq_some_iff.1 h1).1
theorem Row.set {w : World} {g n : Nat} {t : TypeId} {f : Nat → Value} (h : Row w g n t f) (j : Nat) (v : Value) {f' : Nat → Value} (hf : ∀ i, i < n → f' i = if i = j then v else f i) : Row (w.setCell ⟨g, j, none⟩ v) g n t f' := by
  obtain ⟨arr, h1, h2, h3⟩ := h
  refine ⟨_, row_set h1 j v, by simpa using h2, fun i hi => ?_⟩
  rw [hf i hi, Array.getElem?_setIfInBounds]
  by_cases e : j = i
  · subst e
    rw [if_pos rfl, if_pos rfl, if_pos (by omega)]
  · rw [if_neg e, if_neg (fun h => e h.symm)]
    exact h3 i hi
theorem Row.kept {w w' : World} {g n : Nat} {t : TypeId} {f : Nat → Value} (h : Row w g n t f) (hk : w'.heap[g]? = w.heap[g]?) : Row w' g n t f := by
  obtain ⟨arr, h1, h2, h3⟩ := h
  exact ⟨arr, hk.trans h1, h2, h3⟩
theorem Row.other {w : World} {g n : Nat} {t : TypeId} {f : Nat → Value} (h : Row w g n t f) (b j : Nat) (v : Value) (hne : g ≠ b) : Row (w.setCell ⟨b, j, none⟩ v) g n t f := h.kept (Below.heap_setCell _ _ _ _ hne)
theorem Row.alloc {w : World} {g n : Nat} {t : TypeId} {f : Nat → Value} (h : Row w g n t f) (o : Obj) : Row (w.alloc o) g n t f := h.kept (Below.heap_alloc _ _ _ h.lt)
theorem Row.below {w w' : World} {g n : Nat} {t : TypeId} {f : Nat → Value} (h : Row w g n t f) (hb : Below w.heap.size w w') : Row w' g n t f := h.kept (hb.block g h.lt)
theorem Row.made (w : World) (n : Nat) (z : Value) (t : TypeId) : Row (w.alloc (.cells (zeros n z) t)) w.heap.size n t (fun _ => z) :=
  ⟨_, heap_new w _, by simp [zeros], fun j hj => by simp [zeros, hj]⟩
theorem Row.congr {w : World} {g n : Nat} {t : TypeId} {f f' : Nat → Value} (h : Row w g n t f) (e : ∀ j, j < n → f' j = f j) : Row w g n t f' := by
  obtain ⟨arr, h1, h2, h3⟩ := h
  exact ⟨arr, h1, h2, fun j hj => by rw [e j hj]; exact h3 j hj⟩
/-- Read as a slice. -/
theorem Row.rd {w : World} {g n : Nat} {t : TypeId} {f : Nat → Value} {α : Type} {c : α → Value} {xs : List α} (h : Row w g n t f) (hl : xs.length = n) (hx : ∀ j (hj : j < xs.length), f j = c xs[j]) : Rd w (some ⟨g, 0, none⟩) n (xs.map c) := by
  refine ⟨by simpa using hl, fun _ => ⟨g, 0, rfl, fun j hj => ?_⟩⟩
  rw [Nat.zero_add, h.cell j hj, hx j (by omega), List.getElem?_map, List.getElem?_eq_getElem (by omega)]
  rfl

/-! The plain law. -/
/-- Does the signature of ids and trs cover name? -/
def cov (name : ByteArray) (is : List ByteArray) (ts : List Bool) : Prop := ∃ k, k < is.length ∧ (is.getD k ByteArray.empty).toList = name.toList ∧ ts.getD k false = false
theorem covers_iff {name : ByteArray} {is : List ByteArray} {ts : List Bool} {its : List (ByteArray × List ByteArray)} (hl : its.length = is.length) (h : Its is ts its) : covers name its = true ↔ cov name is ts := by
  unfold covers cov
  rw [List.any_eq_true]
  constructor
  · rintro ⟨it, hm, hh⟩
    obtain ⟨k, hk, rfl⟩ := List.getElem_of_mem hm
    obtain ⟨h1, h2⟩ := h k hk
    unfold hit at hh
    rw [h1, h2] at hh
    simp at hh
    exact ⟨k, by omega, hh.1, hh.2⟩
  · rintro ⟨k, hk, h3, h4⟩
    have hk' : k < its.length := by omega
    obtain ⟨h1, h2⟩ := h k hk'
    refine ⟨its[k], List.getElem_mem _, ?_⟩
    unfold hit
    rw [h1, h2, h3, h4]
    simp

/-- The trs that stand beside the ids, as many. -/
def pad (n : Nat) (ts : List Bool) : List Bool := (List.range n).map (fun k => ts.getD k false)
theorem pad_at (n : Nat) (ts : List Bool) (k : Nat) (h : k < n) : (pad n ts).getD k false = ts.getD k false := by simp [pad, List.getD, h]
theorem pad_len (n : Nat) (ts : List Bool) : (pad n ts).length = n := by simp [pad]

theorem cov_pad (name : ByteArray) (is : List ByteArray) (ts : List Bool) : cov name is (pad is.length ts) ↔ cov name is ts := by
  constructor <;> rintro ⟨k, hk, h1, h2⟩ <;> refine ⟨k, hk, h1, ?_⟩
  · rw [pad_at _ _ _ hk] at h2; exact h2
  · rw [pad_at _ _ _ hk]; exact h2
theorem cov_append (name x : ByteArray) (is : List ByteArray) (ts : List Bool) (b : Bool) (hl : ts.length = is.length) : cov name (is ++ [x]) (ts ++ [b]) ↔ cov name is ts ∨ (x.toList = name.toList ∧ b = false) := by
  constructor
  · rintro ⟨k, hk, h1, h2⟩
    by_cases h : k < is.length
    · left
      refine ⟨k, h, ?_, ?_⟩
      · simpa [List.getD, List.getElem?_append_left h] using h1
      · simpa [List.getD, List.getElem?_append_left (show k < ts.length by omega)] using h2
    · right
      have hk' : k = is.length := by simp at hk; omega
      subst hk'
      refine ⟨by simpa [List.getD] using h1, ?_⟩
      rw [← hl] at h2
      simpa [List.getD] using h2
  · rintro (⟨k, hk, h1, h2⟩ | ⟨h1, h2⟩)
    · refine ⟨k, by simp; omega, ?_, ?_⟩
      · simpa [List.getD, List.getElem?_append_left hk] using h1
      · simpa [List.getD, List.getElem?_append_left (show k < ts.length by omega)] using h2
    · refine ⟨is.length, by simp, by simpa [List.getD] using h1, ?_⟩
      rw [← hl]
      simpa [List.getD] using h2
theorem cov_reverse (name : ByteArray) (is : List ByteArray) (ts : List Bool) (hl : ts.length = is.length) : cov name is.reverse ts.reverse ↔ cov name is ts := by
  constructor
  · rintro ⟨k, hk, h1, h2⟩
    have hk' : k < is.length := by simpa using hk
    refine ⟨is.length - 1 - k, by omega, ?_, ?_⟩
    · simpa [List.getD, List.getElem?_reverse hk'] using h1
    · rw [← hl]
      simpa [List.getD, List.getElem?_reverse (show k < ts.length by omega)] using h2
  · rintro ⟨k, hk, h1, h2⟩
    refine ⟨is.length - 1 - k, by simp; omega, ?_, ?_⟩
    · have e : is.length - 1 - (is.length - 1 - k) = k := by omega
      simpa [List.getD, List.getElem?_reverse (show is.length - 1 - k < is.length by omega), e] using h1
    · have e : ts.length - 1 - (ts.length - 1 - k) = k := by omega
      rw [← hl]
      simpa [List.getD, List.getElem?_reverse (show ts.length - 1 - k < ts.length by omega), e] using h2
end Go.Proofs.Qxb6604744a
