/- Reading slices, the clones zzCloneStrings and zzCloneBools, zzBytes, zzStrBytes, zzKeyAt, zzTrAt. -/
import Derived.Test.Qxb6604744aRows
import Derived.WalkKit
import Derived.ProofKit
import Derived.WalkSpells
import Derived.BigQuiet
import Derived.Laws.Cover3
namespace Go.Proofs.Qxb6604744a
open Go.RowKit
set_option linter.unusedVariables false

/-- A slice (its address a, its length len) whose elements, a cell each, are xs. -/
structure Rd (w : World) (a : Option Addr) (len : Nat) (xs : List Value) : Prop where
  len_eq : xs.length = len
  cells : 0 < len → ∃ b off, a = some ⟨b, off, none⟩ ∧ ∀ j, j < len → w.cell? ⟨b, off + j, none⟩ = xs[j]?

theorem Rd.lt {w : World} {b off len : Nat} {xs : List Value} (h : Rd w (some ⟨b, off, none⟩) len xs) (hl : 0 < len) : b < w.heap.size := by
  obtain ⟨b', off', e, hc⟩ := h.cells hl
  have h0 := hc 0 hl
  cases e
  have : xs[0]? = some (xs[0]'(by rw [h.len_eq]; exact hl)) := List.getElem?_eq_getElem _
  rw [this] at h0
  exact World.block_lt_of_cell? w _ h0

/-- Read again in a world in which the blocks that were there are as they were. -/
theorem Rd.below {w w' : World} {a : Option Addr} {len : Nat} {xs : List Value} (h : Rd w a len xs) (hb : Below w.heap.size w w') : Rd w' a len xs := by
  refine ⟨h.len_eq, fun hl => ?_⟩
  obtain ⟨b, off, rfl, hc⟩ := h.cells hl
  exact ⟨b, off, rfl, fun j hj => (hb.cell (p := ⟨b, off + j, none⟩) (h.lt hl)).trans (hc j hj)⟩

/-- n cells that hold z. -/
def zeros (n : Nat) (z : Value) : Array Value := Array.replicate n z

theorem made_zeros (n : Nat) (z : Value) (hz : z.cells = #[z]) : madeCells z.cells (n * 1) = zeros n z := by
  unfold zeros
  apply Array.ext'
  rw [hz, Nat.mul_one, toList_madeCells_one]
  simp

theorem run_mk {t e : TypeId} {z : Value} {bytes : Nat} (ht : Try.prog.underlying t = some (.slice e)) (hi : (Try.prog.info? e).map (fun i => (i.zero, i.size, i.bytes)) = some (some z, 1, bytes)) (hz : z.cells = #[z]) (hb : bytes ≤ 16) (n : Nat) (hn : n ≤ 1048577) (w : World) :
    (Instr.makeSlice t (.int .i64 n) (.int .i64 n)).run Try.prog w = .ok (.slice (some ⟨w.heap.size, 0, none⟩) n n) (w.alloc (.cells (zeros n z) e)) := by
  obtain ⟨i, hi0, hz0, hz1, hz2⟩ := info_parts hi
  have hm : (i.bytes : Int) * (n : Int) ≤ 16 * 1048577 := by
    rw [hz2]
    exact Int.mul_le_mul (by omega) (by omega) (by omega) (by omega)
  have := run_make (P := Try.prog) w t e i z ht hi0 hz0 .i64 .i64 n n (by omega) (by omega) (by omega) (by omega)
  rw [hz1] at this
  simp only [Int.toNat_natCast] at this
  rw [this, made_zeros n z hz]

theorem info9 : (Try.prog.info? 9).map (fun i => (i.zero, i.size, i.bytes)) = some (some (.string ByteArray.empty), 1, 16) := by kernel_rfl
theorem info4 : (Try.prog.info? 4).map (fun i => (i.zero, i.size, i.bytes)) = some (some (.bool false), 1, 1) := by kernel_rfl

theorem run_nil {t e : TypeId} (ht : Try.prog.underlying t = some (.slice e)) (a : Option Addr) (l c : Nat) (w : World) : (binOp .eql t (.slice a l c) (.slice none 0 0)).run Try.prog w = .ok (.bool a.isNone) w := by
  simp [binOp, run_equal_slice_nil w t e a l c ht]

/-- The row in the midst of the copying: the first k elements have been laid. -/
def part (xs : List Value) (z : Value) (len k : Nat) : Array Value := (xs.take k ++ List.replicate (len - k) z).toArray

theorem part_zero (xs : List Value) (z : Value) (len : Nat) : zeros len z = part xs z len 0 := by simp [zeros, part]
theorem part_full (xs : List Value) (z : Value) (len : Nat) (h : xs.length = len) : part xs z len len = xs.toArray := by
  unfold part
  rw [Nat.sub_self, List.take_of_length_le (by omega)]
  simp
theorem part_size (xs : List Value) (z : Value) (len k : Nat) (h : xs.length = len) (hk : k ≤ len) : (part xs z len k).size = len := by
  simp [part]; omega
theorem part_step (xs : List Value) (z : Value) (len k : Nat) (h : xs.length = len) (hk : k < len) : (part xs z len k).setIfInBounds k (xs[k]'(by omega)) = part xs z len (k + 1) := by
  unfold part
  apply Array.ext'
  rw [show len - k = (len - (k + 1)) + 1 by omega, List.replicate_succ]
  simp [show min k xs.length = k by omega]
  rw [List.take_succ_eq_append_getElem (by omega : k < xs.length), List.append_assoc]
  rfl

/-- The copy's block. -/
theorem row_cell {w : World} {g : Nat} {c : Array Value} {t : TypeId} (h : w.heap[g]? = some (.cells c t)) (j : Nat) : w.cell? ⟨g, j, none⟩ = c[j]? := cell_of_row w g j c t (0, 0) h
theorem row_free {w : World} {g : Nat} {c : Array Value} {t : TypeId} (h : w.heap[g]? = some (.cells c t)) (j : Nat) : w.frozen? ⟨g, j, none⟩ = false := by unfold World.frozen?; rw [h]; simp
theorem row_set {w : World} {g : Nat} {c : Array Value} {t : TypeId} (h : w.heap[g]? = some (.cells c t)) (j : Nat) (v : Value) : (w.setCell ⟨g, j, none⟩ v).heap[g]? = some (.cells (c.setIfInBounds j v) t) := by
  simp only [World.setCell, Array.getElem?_modify]
  simp [h]

theorem heap_new (w : World) (o : Obj) : (w.alloc o).heap[w.heap.size]? = some o := (MapKept.heap_alloc w o).1

set_option maxHeartbeats 800000 in
set_option maxRecDepth 100000 in
theorem clone_bools (a : Option Addr) (len cap : Nat) (xs : List Value) (w : World) (hr : Rd w a len xs) (hl : len ≤ 1048576) (hty : ∀ k (h : k < xs.length), ∃ q, xs[k] = .bool q) :
    Calls Try.prog 7 #[.slice a len cap] w fun e w' => (a = none ∧ e = .returned (.slice none 0 0) ∧ w' = w) ∨
      (a ≠ none ∧ e = .returned (.slice (some ⟨w.heap.size, 0, none⟩) len len) ∧ w'.heap[w.heap.size]? = some (.cells xs.toArray 4) ∧ w'.heap.size = w.heap.size + 1 ∧ Below w.heap.size w w') := by
  have hnl := run_nil Try.underlying23
  cases a with
  | none =>
    go_enter Try.func7, Try.ntmps7
    go_wp2
    go_ret
    exact Or.inl ⟨by simp, rfl, rfl⟩
  | some x =>
    have hmk := run_mk Try.underlying23 info4 rfl (by omega) len (by omega)
    have hle := hr.len_eq
    go_enter Try.func7, Try.ntmps7
    go_wp2
    go_loopw [4] (fun i wr => ∃ k : Nat, k ≤ len ∧ i = .int .i64 k ∧ wr.heap[w.heap.size]? = some (.cells (part xs (.bool false) len k) 4) ∧ wr.heap.size = w.heap.size + 1 ∧ Below w.heap.size w wr) (fun i _ => len - (intOf i).toNat)
    case atStart => exact ⟨0, Nat.zero_le _, rfl, by rw [← part_zero]; exact heap_new _ _, by simp, (Below.refl _ _).alloc (Nat.le_refl _) _⟩
    case round =>
      obtain ⟨k, hk, rfl, hrow, hsz, hbel⟩ := hrel
      by_cases hlt : k < len
      · obtain ⟨b, off, ex, hc⟩ := hr.cells (by omega)
        cases ex
        have hbs : b < w.heap.size := hr.lt (by omega)
        have hx : wr.cell? ⟨b, off + k, none⟩ = some (xs[k]'(by omega)) := by
          rw [hbel.cell (p := ⟨b, off + k, none⟩) hbs, hc k hlt]
          exact List.getElem?_eq_getElem _
        obtain ⟨y, hy⟩ : ∃ y, wr.cell? ⟨w.heap.size, k, none⟩ = some y := by
          rw [row_cell hrow, Array.getElem?_eq_getElem (by rw [part_size _ _ _ _ hle hk]; exact hlt)]
          exact ⟨_, rfl⟩
        have hfz := row_free hrow k
        have hset := row_set hrow k (xs[k]'(by omega))
        rw [part_step _ _ _ _ hle hlt] at hset
        have hbel' := hbel.setCell (p := ⟨w.heap.size, k, none⟩) (Nat.le_refl _) (xs[k]'(by omega))
        have hsz' : (wr.setCell ⟨w.heap.size, k, none⟩ (xs[k]'(by omega))).heap.size = w.heap.size + 1 := by simp [hsz]
        obtain ⟨q, hq⟩ := hty k (by omega)
        rw [hq] at hx hset hbel' hsz'
        have HS : Hid _ := hset
        have HB : Hid _ := hbel'
        have HZ : Hid _ := hsz'
        clear hrow hset hbel' hsz' hsz hbel hc hr hmk
        go_wp2
        go_roundw
        case rel => exact ⟨k + 1, by omega, by go_num, HS.out, HZ.out, HB.out⟩
        case measure => simp [intOf]; omega
      · have he : k = len := by omega
        have HR : Hid (wr.heap[w.heap.size]? = some (.cells xs.toArray 4)) := by
          show wr.heap[w.heap.size]? = _
          rw [hrow, he, part_full _ _ _ hle]
        clear hrow he
        go_wp2
        go_ret
        exact Or.inr ⟨by simp, rfl, HR.out, hsz, hbel⟩

set_option maxHeartbeats 800000 in
set_option maxRecDepth 100000 in
theorem clone_strs (a : Option Addr) (len cap : Nat) (xs : List Value) (w : World) (hr : Rd w a len xs) (hl : len ≤ 1048576) (hty : ∀ k (h : k < xs.length), ∃ q, xs[k] = .string q) :
    Calls Try.prog 6 #[.slice a len cap] w fun e w' => (a = none ∧ e = .returned (.slice none 0 0) ∧ w' = w) ∨
      (a ≠ none ∧ e = .returned (.slice (some ⟨w.heap.size, 0, none⟩) len len) ∧ w'.heap[w.heap.size]? = some (.cells xs.toArray 9) ∧ w'.heap.size = w.heap.size + 1 ∧ Below w.heap.size w w') := by
  have hnl := run_nil Try.underlying22
  cases a with
  | none =>
    go_enter Try.func6, Try.ntmps6
    go_wp2
    go_ret
    exact Or.inl ⟨by simp, rfl, rfl⟩
  | some x =>
    have hmk := run_mk Try.underlying22 info9 rfl (by omega) len (by omega)
    have hle := hr.len_eq
    go_enter Try.func6, Try.ntmps6
    go_wp2
    go_loopw [4] (fun i wr => ∃ k : Nat, k ≤ len ∧ i = .int .i64 k ∧ wr.heap[w.heap.size]? = some (.cells (part xs (.string ByteArray.empty) len k) 9) ∧ wr.heap.size = w.heap.size + 1 ∧ Below w.heap.size w wr) (fun i _ => len - (intOf i).toNat)
    case atStart => exact ⟨0, Nat.zero_le _, rfl, by rw [← part_zero]; exact heap_new _ _, by simp, (Below.refl _ _).alloc (Nat.le_refl _) _⟩
    case round =>
      obtain ⟨k, hk, rfl, hrow, hsz, hbel⟩ := hrel
      by_cases hlt : k < len
      · obtain ⟨b, off, ex, hc⟩ := hr.cells (by omega)
        cases ex
        have hbs : b < w.heap.size := hr.lt (by omega)
        have hx : wr.cell? ⟨b, off + k, none⟩ = some (xs[k]'(by omega)) := by
          rw [hbel.cell (p := ⟨b, off + k, none⟩) hbs, hc k hlt]
          exact List.getElem?_eq_getElem _
        obtain ⟨y, hy⟩ : ∃ y, wr.cell? ⟨w.heap.size, k, none⟩ = some y := by
          rw [row_cell hrow, Array.getElem?_eq_getElem (by rw [part_size _ _ _ _ hle hk]; exact hlt)]
          exact ⟨_, rfl⟩
        have hfz := row_free hrow k
        have hset := row_set hrow k (xs[k]'(by omega))
        rw [part_step _ _ _ _ hle hlt] at hset
        have hbel' := hbel.setCell (p := ⟨w.heap.size, k, none⟩) (Nat.le_refl _) (xs[k]'(by omega))
        have hsz' : (wr.setCell ⟨w.heap.size, k, none⟩ (xs[k]'(by omega))).heap.size = w.heap.size + 1 := by simp [hsz]
        obtain ⟨q, hq⟩ := hty k (by omega)
        rw [hq] at hx hset hbel' hsz'
        have HS : Hid _ := hset
        have HB : Hid _ := hbel'
        have HZ : Hid _ := hsz'
        clear hrow hset hbel' hsz' hsz hbel hc hr hmk
        go_wp2
        go_roundw
        case rel => exact ⟨k + 1, by omega, by go_num, HS.out, HZ.out, HB.out⟩
        case measure => simp [intOf]; omega
      · have he : k = len := by omega
        have HR : Hid (wr.heap[w.heap.size]? = some (.cells xs.toArray 9)) := by
          show wr.heap[w.heap.size]? = _
          rw [hrow, he, part_full _ _ _ hle]
        clear hrow he
        go_wp2
        go_ret
        exact Or.inr ⟨by simp, rfl, HR.out, hsz, hbel⟩

end Go.Proofs.Qxb6604744a
