/- ZZnewRecord: the record, its dropped packets and its sent vectors in rows of their own. -/
import Derived.Test.Qxb6604703aGuards
import Derived.Deep.RegionHeld3
import Derived.Deep.Cut
namespace Go.Proofs.Qxb6604703a
open Go.RowKit
set_option linter.unusedVariables false

theorem info34 : (Try.prog.info? 34).map (fun i => (i.zero, i.size, i.bytes)) = some (some (.int .u64 0), 1, 8) := by kernel_rfl
theorem info60 : (Try.prog.info? 60).map (fun i => (i.zero, i.size, i.bytes)) = some (some (.agg #[.int .u64 0, .int .u64 0]), 2, 16) := by kernel_rfl

/-- n elements of two cells, whatever they hold. -/
def twos (n : Nat) : Array Value := madeCells #[.int .u64 0, .int .u64 0] (n * 2)
theorem twos_size (n : Nat) : (twos n).size = n * 2 := size_madeCells _ _
theorem run_mk2 (n : Nat) (hn : n ≤ 1024) (w : World) :
    (Instr.makeSlice 56 (.int .i64 n) (.int .i64 n)).run Try.prog w = .ok (.slice (some ⟨w.heap.size, 0, none⟩) n n) (w.alloc (.cells (twos n) 60)) := by
  obtain ⟨i, hi0, hz0, hz1, hz2⟩ := info_parts info60
  have hm : (i.bytes : Int) * (n : Int) ≤ 16 * 1024 := by
    rw [hz2]
    exact Int.mul_le_mul (by omega) (by omega) (by omega) (by omega)
  have := run_make (P := Try.prog) w 56 60 i _ Try.underlying56 hi0 hz0 .i64 .i64 n n (by omega) (by omega) (by omega) (by omega)
  rw [hz1] at this
  simp only [Int.toNat_natCast] at this
  exact this

/-- The record's cells. -/
abbrev recCells (st : Bool) (base : Int) (rv dv sv cv bv : Value) : Array Value := #[.bool st, .int .u64 base, rv, dv, sv, cv, bv]
/-- The sent vectors: nil, or a row of just so many, two cells each. -/
def SentOK (w : World) (sv : Value) : Prop := ∃ (n : Nat), n ≤ 1024 ∧ ((sv = .slice none 0 0 ∧ n = 0) ∨ ∃ gs arr, sv = .slice (some ⟨gs, 0, none⟩) n n ∧ w.heap[gs]? = some (.cells arr 60) ∧ arr.size = n * 2)
/-- The dropped packets: a slice of numbers, not too long, that does not lie in the record's own block g. -/
def DropOK (w : World) (g : Nat) (dv : Value) : Prop := ∃ (a : Option Addr) (n c : Nat) (zs : List Int), dv = .slice a n c ∧ n ≤ 65536 ∧ n ≤ c ∧ Rd w a n (zs.map (Value.int .u64)) ∧ ∀ x, a = some x → x.block ≠ g
/-- The record at block g. -/
structure Rec (w : World) (g : Nat) (st : Bool) (base : Int) (rv dv sv cv bv : Value) : Prop where
  row : w.heap[g]? = some (.cells (recCells st base rv dv sv cv bv) 58)
  drop : DropOK w g dv
  sent : SentOK w sv

/-- The blocks that were there, but for one, are as they were. -/
structure Kept (g : Nat) (w w' : World) : Prop where
  size : w.heap.size ≤ w'.heap.size
  block : ∀ k, k < w.heap.size → k ≠ g → w'.heap[k]? = w.heap[k]?

theorem Rd.kept {w w' : World} {a : Option Addr} {len g : Nat} {xs : List Value} (h : Rd w a len xs) (hk : Kept g w w') (hne : ∀ x, a = some x → x.block ≠ g) : Rd w' a len xs := by
  refine ⟨h.len_eq, fun hl => ?_⟩
  obtain ⟨b, off, rfl, hc⟩ := h.cells hl
  refine ⟨b, off, rfl, fun j hj => ?_⟩
  rw [World.cell?_of_block (w := w) (hk.block b (h.lt hl) (hne _ rfl))]
  exact hc j hj

theorem two_cells {w : World} {g n : Nat} {arr : Array Value} (h : w.heap[g]? = some (.cells arr 60)) (hs : arr.size = n * 2) (k : Nat) (hk : k < n) :
    (∃ y, w.cell? ⟨g, k * 2, none⟩ = some y) ∧ ∃ y, w.cell? ⟨g, k * 2 + 1, none⟩ = some y := by
  refine ⟨?_, ?_⟩ <;> (rw [row_cell h, Array.getElem?_eq_getElem (by omega)]; exact ⟨_, rfl⟩)

set_option maxHeartbeats 6400000 in
set_option maxRecDepth 100000 in
theorem newRecord_any (a3 a4 a5 : Option Addr) (l3 c3 l4 c4 l5 c5 : Nat) (ar : Option Addr) (lr cr : Nat) (ds ss ks : List Int) (st : Bool) (base : Int) (w : World)
    (m3 : l3 ≤ 65536) (m4 : l4 ≤ 1024) (m5 : l5 ≤ 1024)
    (h3 : Rd w a3 l3 (ds.map (.int .u64))) (h4 : Rd w a4 l4 (ss.map (.int .u64))) (h5 : Rd w a5 l5 (ks.map (.int .u64))) :
    Calls Try.prog 11 #[.bool st, .int .u64 base, .slice ar lr cr, .slice a3 l3 c3, .slice a4 l4 c4, .slice a5 l5 c5] w fun e w' => e = .returned (.pointer (some ⟨w.heap.size, 0, none⟩)) ∧
      ∃ dv sv, Rec w' w.heap.size st base (.slice ar lr cr) dv sv (.slice none 0 0) (.slice none 0 0) ∧ Below w.heap.size w w' := by
  have hmk2 := run_mk2
  cases a3 with
  | none =>
    obtain ⟨X, hX⟩ : ∃ X, X = w.alloc (.cells (recCells st base (.slice ar lr cr) (.slice none 0 0) (.slice none 0 0) (.slice none 0 0) (.slice none 0 0)) 58) := ⟨_, rfl⟩
    obtain ⟨S1, hS1⟩ : ∃ S1, S1 = w.heap.size + 1 := ⟨_, rfl⟩
    have hrec : X.heap[w.heap.size]? = some (.cells (recCells st base (.slice ar lr cr) (.slice none 0 0) (.slice none 0 0) (.slice none 0 0) (.slice none 0 0)) 58) := by rw [hX]; exact heap_new _ _
    have hsz : X.heap.size = S1 := by rw [hX, hS1]; simp
    have hlS : w.heap.size < S1 := by omega
    have hbel : Below w.heap.size w X := by rw [hX]; exact (Below.refl _ _).alloc (Nat.le_refl _) _
    have hdv : DropOK X w.heap.size (.slice none 0 0) := ⟨none, 0, 0, [], rfl, by omega, by omega, ⟨rfl, fun h => by omega⟩, fun x h => by cases h⟩
    have HX : Hid (X = _) := hX
    clear hX hS1
    have hX' : w.alloc (.cells #[.bool st, .int .u64 base, .slice ar lr cr, .slice none 0 0, .slice none 0 0, .slice none 0 0, .slice none 0 0] 58) = X := HX.out.symm
    have HX' : Hid _ := hX'
    clear hX' HX h3
    go_enter Try.func11, Try.ntmps11
    go_upto_region 8 with fail
    rw [HX'.out]
    clear HX'
    have hc4 : X.cell? ⟨w.heap.size, 4, none⟩ = some (.slice none 0 0) := row_cell hrec 4
    have hz4 : X.frozen? ⟨w.heap.size, 4, none⟩ = false := row_free hrec 4
    have hlx : w.heap.size < X.heap.size := by omega
    cases a4 with
    | none =>
      have hl4 : l4 = 0 := by
        have := h4.cells
        by_cases h : 0 < l4
        · obtain ⟨b, off, e, _⟩ := this h
          cases e
        · omega
      subst hl4
      have hq4 : decide ((l5 : Int) < 0) = false := by simp
      clear h4 h5
      go_wp2
      go_ret
      exact ⟨rfl, _, _, ⟨hrec, hdv, 0, by omega, Or.inl ⟨rfl, rfl⟩⟩, hbel⟩
    | some x4 =>
      by_cases hl5 : l5 < l4
      · have hq5 : decide ((l5 : Int) < (l4 : Int)) = true := by simp; omega
        have hmkn := hmk2 l5 (by omega)
        go_wp2
        go_loopw [16] (fun i wq => ∃ (k : Nat) (arr : Array Value), k ≤ l5 ∧ i = .int .i64 k ∧ wq.heap[w.heap.size]? = some (.cells (recCells st base (.slice ar lr cr) (.slice none 0 0) (.slice (some ⟨S1, 0, none⟩) l5 l5) (.slice none 0 0) (.slice none 0 0)) 58) ∧
            wq.heap[S1]? = some (.cells arr 60) ∧ arr.size = l5 * 2 ∧ wq.heap.size = S1 + 1 ∧ Below w.heap.size w wq ∧ Kept w.heap.size X wq) (fun i _ => l5 - (intOf i).toNat)
        case atStart =>
          refine ⟨0, twos l5, Nat.zero_le _, rfl, ?_, ?_, twos_size _, ?_, ?_, ?_⟩
          · rw [Below.heap_alloc _ _ _ (by simp; omega)]
            have := row_set hrec 4 (.slice (some ⟨S1, 0, none⟩) l5 l5)
            simpa using this
          · have := heap_new (X.setCell ⟨w.heap.size, 4, none⟩ (.slice (some ⟨S1, 0, none⟩) l5 l5)) (.cells (twos l5) 60)
            simpa [hsz] using this
          · simp [hsz]
          · exact (hbel.setCell (p := ⟨w.heap.size, 4, none⟩) (Nat.le_refl _) _).alloc (by simp; omega) _
          · refine ⟨by simp, fun k hk hne => ?_⟩
            rw [Below.heap_alloc _ _ _ (by simpa using hk)]
            exact Below.heap_setCell _ _ _ _ hne
        case round =>
          obtain ⟨k, arr, hk, rfl, hrec2, hrow2, hars, hsz2, hbel2, hkep⟩ := hrel
          by_cases hlt : k < l5
          · obtain ⟨b4, o4, q4, e4, hx4, _⟩ := rd_at h4 k (by omega)
            obtain ⟨b5, o5, q5, e5, hx5, _⟩ := rd_at h5 k (by omega)
            cases e4
            cases e5
            have hb4 : b4 < w.heap.size := h4.lt (by omega)
            have hb5 : b5 < w.heap.size := h5.lt (by omega)
            have hy4 : wr.cell? ⟨b4, o4 + k, none⟩ = some (.int .u64 q4) := (hbel2.cell (p := ⟨b4, o4 + k, none⟩) hb4).trans hx4
            have hy5 : wr.cell? ⟨b5, o5 + k, none⟩ = some (.int .u64 q5) := (hbel2.cell (p := ⟨b5, o5 + k, none⟩) hb5).trans hx5
            have hf4 : wr.cell? ⟨w.heap.size, 4, none⟩ = some (.slice (some ⟨S1, 0, none⟩) l5 l5) := row_cell hrec2 4
            obtain ⟨⟨y0, hy0⟩, ⟨y1, hy1⟩⟩ := two_cells hrow2 hars k hlt
            have hz0 := row_free hrow2 (k * 2)
            have hz1 := row_free hrow2 (k * 2 + 1)
            have hk0 : (0 : Int) ≤ (k : Int) := by omega
            have hk1 : (k : Int) < (l5 : Int) := by omega
            have hk2 : (k : Int) < (l4 : Int) := by omega
            have hk3 : (k : Int) < (l5 : Int) := by omega
            have hS : wr.drew.cell? ⟨w.heap.size, 4, none⟩ = some (.slice (some ⟨S1, 0, none⟩) l5 l5) ∧ wr.drew.cell? ⟨b4, o4 + k, none⟩ = some (.int .u64 q4) ∧ wr.drew.cell? ⟨b5, o5 + k, none⟩ = some (.int .u64 q5) := ⟨hf4, hy4, hy5⟩
            obtain ⟨W2, hW2⟩ : ∃ W2, W2 = ((wr.setCell ⟨S1, k * 2, none⟩ (.int .u64 q4)).setCell ⟨S1, k * 2 + 1, none⟩ (.int .u64 q5)).drew := ⟨_, rfl⟩
            have hS2 : W2.cell? ⟨w.heap.size, 4, none⟩ = some (.slice (some ⟨S1, 0, none⟩) l5 l5) ∧ W2.cell? ⟨b4, o4 + k, none⟩ = some (.int .u64 q4) ∧ W2.cell? ⟨b5, o5 + k, none⟩ = some (.int .u64 q5) := by
              rw [hW2]
              refine ⟨?_, ?_, ?_⟩ <;> (show (World.setCell _ _ _).cell? _ = _; rw [World.cell?_setCell_other _ _ _ _ (by simp <;> omega), World.cell?_setCell_other _ _ _ _ (by simp <;> omega)]; assumption)
            have hrel2 : ∃ arr' : Array Value, W2.heap[w.heap.size]? = some (.cells (recCells st base (.slice ar lr cr) (.slice none 0 0) (.slice (some ⟨S1, 0, none⟩) l5 l5) (.slice none 0 0) (.slice none 0 0)) 58) ∧
                W2.heap[S1]? = some (.cells arr' 60) ∧ arr'.size = l5 * 2 ∧ W2.heap.size = S1 + 1 ∧ Below w.heap.size w W2 ∧ Kept w.heap.size X W2 := by
              rw [hW2]
              refine ⟨_, ?_, row_set (row_set hrow2 (k * 2) (.int .u64 q4)) (k * 2 + 1) (.int .u64 q5), by simpa using hars, by simpa using hsz2, ?_, ?_⟩
              · show (World.setCell _ _ _).heap[w.heap.size]? = _
                rw [Below.heap_setCell _ _ _ _ (by simp; omega), Below.heap_setCell _ _ _ _ (by simp; omega)]
                exact hrec2
              · exact ((hbel2.setCell (p := ⟨S1, k * 2, none⟩) (by simp; omega) _).setCell (p := ⟨S1, k * 2 + 1, none⟩) (by simp; omega) _).drew
              · refine ⟨by simpa using hkep.size, fun j hj hne => ?_⟩
                show (World.setCell _ _ _).heap[j]? = _
                rw [Below.heap_setCell _ _ _ _ (by simp; omega), Below.heap_setCell _ _ _ _ (by simp; omega)]
                exact hkep.block j hj hne
            have HR : Hid _ := hrel2
            have HS2 : Hid _ := hS2
            have HW : Hid (W2 = ((wr.setCell ⟨S1, k * 2, none⟩ (.int .u64 q4)).setCell ⟨S1, k * 2 + 1, none⟩ (.int .u64 q5)).drew) := hW2
            clear hrel2 hS2 hW2 hrec2 hrow2 hars hsz2 hbel2 hkep hrec hsz hbel h4 h5 hdv hx4 hx5 hmk2 hmkn hc4 hz4
            go_wp2
            go_region_held3 (fun x => x.cell? ⟨w.heap.size, 4, none⟩ = some (.slice (some ⟨S1, 0, none⟩) l5 l5) ∧ x.cell? ⟨b4, o4 + k, none⟩ = some (.int .u64 q4) ∧ x.cell? ⟨b5, o5 + k, none⟩ = some (.int .u64 q5))
              (first | exact hS | (have := HS2.out; rw [HW.out] at this; exact this)) (fail)
            obtain ⟨arr', g1, g2, g3, g4, g5, g6⟩ := HR.out
            have HG : Hid _ := And.intro g1 (And.intro g2 (And.intro g3 (And.intro g4 (And.intro g5 g6))))
            clear g1 g2 g3 g4 g5 g6 HR HS2
            go_wp2
            go_roundw
            case rel => exact ⟨k + 1, arr', by omega, by go_num, by have := HG.out; rw [HW.out] at this; exact this⟩
            case measure => simp [intOf]; omega
          · go_wp2
            go_ret
            refine ⟨rfl, _, _, ⟨hrec2, ?_, l5, by omega, Or.inr ⟨S1, arr, rfl, hrow2, hars⟩⟩, hbel2⟩
            obtain ⟨ad, nd, cd, zd, ed, md, mc, hd, hne⟩ := hdv
            exact ⟨ad, nd, cd, zd, ed, md, mc, hd.kept hkep hne, hne⟩
      · have hq5 : decide ((l5 : Int) < (l4 : Int)) = false := by simp; omega
        have hmkn := hmk2 l4 (by omega)
        go_wp2
        go_loopw [16] (fun i wq => ∃ (k : Nat) (arr : Array Value), k ≤ l4 ∧ i = .int .i64 k ∧ wq.heap[w.heap.size]? = some (.cells (recCells st base (.slice ar lr cr) (.slice none 0 0) (.slice (some ⟨S1, 0, none⟩) l4 l4) (.slice none 0 0) (.slice none 0 0)) 58) ∧
            wq.heap[S1]? = some (.cells arr 60) ∧ arr.size = l4 * 2 ∧ wq.heap.size = S1 + 1 ∧ Below w.heap.size w wq ∧ Kept w.heap.size X wq) (fun i _ => l4 - (intOf i).toNat)
        case atStart =>
          refine ⟨0, twos l4, Nat.zero_le _, rfl, ?_, ?_, twos_size _, ?_, ?_, ?_⟩
          · rw [Below.heap_alloc _ _ _ (by simp; omega)]
            have := row_set hrec 4 (.slice (some ⟨S1, 0, none⟩) l4 l4)
            simpa using this
          · have := heap_new (X.setCell ⟨w.heap.size, 4, none⟩ (.slice (some ⟨S1, 0, none⟩) l4 l4)) (.cells (twos l4) 60)
            simpa [hsz] using this
          · simp [hsz]
          · exact (hbel.setCell (p := ⟨w.heap.size, 4, none⟩) (Nat.le_refl _) _).alloc (by simp; omega) _
          · refine ⟨by simp, fun k hk hne => ?_⟩
            rw [Below.heap_alloc _ _ _ (by simpa using hk)]
            exact Below.heap_setCell _ _ _ _ hne
        case round =>
          obtain ⟨k, arr, hk, rfl, hrec2, hrow2, hars, hsz2, hbel2, hkep⟩ := hrel
          by_cases hlt : k < l4
          · obtain ⟨b4, o4, q4, e4, hx4, _⟩ := rd_at h4 k (by omega)
            obtain ⟨b5, o5, q5, e5, hx5, _⟩ := rd_at h5 k (by omega)
            cases e4
            cases e5
            have hb4 : b4 < w.heap.size := h4.lt (by omega)
            have hb5 : b5 < w.heap.size := h5.lt (by omega)
            have hy4 : wr.cell? ⟨b4, o4 + k, none⟩ = some (.int .u64 q4) := (hbel2.cell (p := ⟨b4, o4 + k, none⟩) hb4).trans hx4
            have hy5 : wr.cell? ⟨b5, o5 + k, none⟩ = some (.int .u64 q5) := (hbel2.cell (p := ⟨b5, o5 + k, none⟩) hb5).trans hx5
            have hf4 : wr.cell? ⟨w.heap.size, 4, none⟩ = some (.slice (some ⟨S1, 0, none⟩) l4 l4) := row_cell hrec2 4
            obtain ⟨⟨y0, hy0⟩, ⟨y1, hy1⟩⟩ := two_cells hrow2 hars k hlt
            have hz0 := row_free hrow2 (k * 2)
            have hz1 := row_free hrow2 (k * 2 + 1)
            have hk0 : (0 : Int) ≤ (k : Int) := by omega
            have hk1 : (k : Int) < (l4 : Int) := by omega
            have hk2 : (k : Int) < (l4 : Int) := by omega
            have hk3 : (k : Int) < (l5 : Int) := by omega
            have hS : wr.drew.cell? ⟨w.heap.size, 4, none⟩ = some (.slice (some ⟨S1, 0, none⟩) l4 l4) ∧ wr.drew.cell? ⟨b4, o4 + k, none⟩ = some (.int .u64 q4) ∧ wr.drew.cell? ⟨b5, o5 + k, none⟩ = some (.int .u64 q5) := ⟨hf4, hy4, hy5⟩
            obtain ⟨W2, hW2⟩ : ∃ W2, W2 = ((wr.setCell ⟨S1, k * 2, none⟩ (.int .u64 q4)).setCell ⟨S1, k * 2 + 1, none⟩ (.int .u64 q5)).drew := ⟨_, rfl⟩
            have hS2 : W2.cell? ⟨w.heap.size, 4, none⟩ = some (.slice (some ⟨S1, 0, none⟩) l4 l4) ∧ W2.cell? ⟨b4, o4 + k, none⟩ = some (.int .u64 q4) ∧ W2.cell? ⟨b5, o5 + k, none⟩ = some (.int .u64 q5) := by
              rw [hW2]
              refine ⟨?_, ?_, ?_⟩ <;> (show (World.setCell _ _ _).cell? _ = _; rw [World.cell?_setCell_other _ _ _ _ (by simp <;> omega), World.cell?_setCell_other _ _ _ _ (by simp <;> omega)]; assumption)
            have hrel2 : ∃ arr' : Array Value, W2.heap[w.heap.size]? = some (.cells (recCells st base (.slice ar lr cr) (.slice none 0 0) (.slice (some ⟨S1, 0, none⟩) l4 l4) (.slice none 0 0) (.slice none 0 0)) 58) ∧
                W2.heap[S1]? = some (.cells arr' 60) ∧ arr'.size = l4 * 2 ∧ W2.heap.size = S1 + 1 ∧ Below w.heap.size w W2 ∧ Kept w.heap.size X W2 := by
              rw [hW2]
              refine ⟨_, ?_, row_set (row_set hrow2 (k * 2) (.int .u64 q4)) (k * 2 + 1) (.int .u64 q5), by simpa using hars, by simpa using hsz2, ?_, ?_⟩
              · show (World.setCell _ _ _).heap[w.heap.size]? = _
                rw [Below.heap_setCell _ _ _ _ (by simp; omega), Below.heap_setCell _ _ _ _ (by simp; omega)]
                exact hrec2
              · exact ((hbel2.setCell (p := ⟨S1, k * 2, none⟩) (by simp; omega) _).setCell (p := ⟨S1, k * 2 + 1, none⟩) (by simp; omega) _).drew
              · refine ⟨by simpa using hkep.size, fun j hj hne => ?_⟩
                show (World.setCell _ _ _).heap[j]? = _
                rw [Below.heap_setCell _ _ _ _ (by simp; omega), Below.heap_setCell _ _ _ _ (by simp; omega)]
                exact hkep.block j hj hne
            have HR : Hid _ := hrel2
            have HS2 : Hid _ := hS2
            have HW : Hid (W2 = ((wr.setCell ⟨S1, k * 2, none⟩ (.int .u64 q4)).setCell ⟨S1, k * 2 + 1, none⟩ (.int .u64 q5)).drew) := hW2
            clear hrel2 hS2 hW2 hrec2 hrow2 hars hsz2 hbel2 hkep hrec hsz hbel h4 h5 hdv hx4 hx5 hmk2 hmkn hc4 hz4
            go_wp2
            go_region_held3 (fun x => x.cell? ⟨w.heap.size, 4, none⟩ = some (.slice (some ⟨S1, 0, none⟩) l4 l4) ∧ x.cell? ⟨b4, o4 + k, none⟩ = some (.int .u64 q4) ∧ x.cell? ⟨b5, o5 + k, none⟩ = some (.int .u64 q5))
              (first | exact hS | (have := HS2.out; rw [HW.out] at this; exact this)) (fail)
            obtain ⟨arr', g1, g2, g3, g4, g5, g6⟩ := HR.out
            have HG : Hid _ := And.intro g1 (And.intro g2 (And.intro g3 (And.intro g4 (And.intro g5 g6))))
            clear g1 g2 g3 g4 g5 g6 HR HS2
            go_wp2
            go_roundw
            case rel => exact ⟨k + 1, arr', by omega, by go_num, by have := HG.out; rw [HW.out] at this; exact this⟩
            case measure => simp [intOf]; omega
          · go_wp2
            go_ret
            refine ⟨rfl, _, _, ⟨hrec2, ?_, l4, by omega, Or.inr ⟨S1, arr, rfl, hrow2, hars⟩⟩, hbel2⟩
            obtain ⟨ad, nd, cd, zd, ed, md, mc, hd, hne⟩ := hdv
            exact ⟨ad, nd, cd, zd, ed, md, mc, hd.kept hkep hne, hne⟩
  | some x3 =>
    have hmk := run_mk Try.underlying55 info34 rfl (by omega) l3 (by omega)
    have hle := h3.len_eq
    go_enter Try.func11, Try.ntmps11
    go_wp2
    go_loopw [14] (fun i X => ∃ k : Nat, k ≤ l3 ∧ i = .int .i64 k ∧ X.heap[w.heap.size]? = some (.cells (recCells st base (.slice ar lr cr) (.slice (some ⟨w.heap.size + 1, 0, none⟩) l3 l3) (.slice none 0 0) (.slice none 0 0) (.slice none 0 0)) 58) ∧
        X.heap[w.heap.size + 1]? = some (.cells (part (ds.map (.int .u64)) (.int .u64 0) l3 k) 34) ∧ X.heap.size = w.heap.size + 1 + 1 ∧ Below w.heap.size w X) (fun i _ => l3 - (intOf i).toNat)
    case atStart =>
      refine ⟨0, Nat.zero_le _, rfl, ?_, ?_, by simp, ((Below.refl _ _).alloc (Nat.le_refl _) _).alloc (by simp) _⟩
      · rw [Below.heap_alloc _ _ _ (by simp)]; exact heap_new _ _
      · rw [← part_zero]
        have := heap_new (w.alloc (.cells (recCells st base (.slice ar lr cr) (.slice (some ⟨w.heap.size + 1, 0, none⟩) l3 l3) (.slice none 0 0) (.slice none 0 0) (.slice none 0 0)) 58)) (.cells (zeros l3 (.int .u64 0)) 34)
        simpa using this
    case round =>
      obtain ⟨k, hk, rfl, hrec, hrow, hsz, hbel⟩ := hrel
      generalize wr = X at *
      by_cases hlt : k < l3
      · obtain ⟨b3, o3, q, e3, hx, hq⟩ := rd_at h3 k hlt
        cases e3
        have hb3 : b3 < w.heap.size := h3.lt (by omega)
        have hy3 : X.cell? ⟨b3, o3 + k, none⟩ = some (.int .u64 q) := (hbel.cell (p := ⟨b3, o3 + k, none⟩) hb3).trans hx
        have hf3 : X.cell? ⟨w.heap.size, 3, none⟩ = some (.slice (some ⟨w.heap.size + 1, 0, none⟩) l3 l3) := row_cell hrec 3
        obtain ⟨y, hy⟩ : ∃ y, X.cell? ⟨w.heap.size + 1, k, none⟩ = some y := by
          rw [row_cell hrow, Array.getElem?_eq_getElem (by rw [part_size _ _ _ _ hle hk]; exact hlt)]
          exact ⟨_, rfl⟩
        have hfz := row_free hrow k
        have hk0 : (0 : Int) ≤ (k : Int) := by omega
        have hk1 : (k : Int) < (l3 : Int) := by omega
        have hqk : (ds.map (Value.int .u64))[k]'(by omega) = .int .u64 q := by
          have hkd : k < ds.length := by simp at hle; omega
          rw [List.getElem?_eq_getElem hkd] at hq
          cases hq
          simp
        have hS : X.drew.cell? ⟨w.heap.size, 3, none⟩ = some (.slice (some ⟨w.heap.size + 1, 0, none⟩) l3 l3) ∧ X.drew.cell? ⟨b3, o3 + k, none⟩ = some (.int .u64 q) := ⟨hf3, hy3⟩
        have hS2 : (X.setCell ⟨w.heap.size + 1, k, none⟩ (.int .u64 q)).drew.cell? ⟨w.heap.size, 3, none⟩ = some (.slice (some ⟨w.heap.size + 1, 0, none⟩) l3 l3) ∧ (X.setCell ⟨w.heap.size + 1, k, none⟩ (.int .u64 q)).drew.cell? ⟨b3, o3 + k, none⟩ = some (.int .u64 q) := by
          refine ⟨?_, ?_⟩ <;> (show (World.setCell _ _ _).cell? _ = _; rw [World.cell?_setCell_other _ _ _ _ (by simp <;> omega)]; assumption)
        have HG : Hid ((X.setCell ⟨w.heap.size + 1, k, none⟩ (.int .u64 q)).drew.heap[w.heap.size]? = some (.cells (recCells st base (.slice ar lr cr) (.slice (some ⟨w.heap.size + 1, 0, none⟩) l3 l3) (.slice none 0 0) (.slice none 0 0) (.slice none 0 0)) 58) ∧
            (X.setCell ⟨w.heap.size + 1, k, none⟩ (.int .u64 q)).drew.heap[w.heap.size + 1]? = some (.cells (part (ds.map (.int .u64)) (.int .u64 0) l3 (k + 1)) 34) ∧ (X.setCell ⟨w.heap.size + 1, k, none⟩ (.int .u64 q)).drew.heap.size = w.heap.size + 1 + 1 ∧ Below w.heap.size w (X.setCell ⟨w.heap.size + 1, k, none⟩ (.int .u64 q)).drew) := by
          refine ⟨?_, ?_, by simpa using hsz, (hbel.setCell (p := ⟨w.heap.size + 1, k, none⟩) (by simp) _).drew⟩
          · show (World.setCell _ _ _).heap[w.heap.size]? = _
            rw [Below.heap_setCell _ _ _ _ (by simp)]
            exact hrec
          · have := row_set hrow k (.int .u64 q)
            rw [← hqk, part_step _ _ _ _ hle hlt] at this
            rw [hqk] at this
            exact this
        have HS2 : Hid _ := hS2
        clear hS2 hrec hrow hsz hbel h3 h4 h5 hmk hmk2 hx hq hqk hle
        go_wp2
        go_region_held3 (fun x => x.cell? ⟨w.heap.size, 3, none⟩ = some (.slice (some ⟨w.heap.size + 1, 0, none⟩) l3 l3) ∧ x.cell? ⟨b3, o3 + k, none⟩ = some (.int .u64 q))
          (first | exact hS | exact HS2.out) (fail)
        go_wp2
        go_roundw
        case rel => exact ⟨k + 1, by omega, by go_num, HG.out⟩
        case measure => simp [intOf]; omega
      · obtain ⟨S1, hS1⟩ : ∃ S1, S1 = w.heap.size + 1 + 1 := ⟨_, rfl⟩
        rw [← hS1] at hsz
        have hlS : w.heap.size < S1 := by omega
        have hdv : DropOK X w.heap.size (.slice (some ⟨w.heap.size + 1, 0, none⟩) l3 l3) := by
          refine ⟨_, _, _, ds, rfl, m3, Nat.le_refl _, ⟨hle, fun hl => ⟨w.heap.size + 1, 0, rfl, fun j hj => ?_⟩⟩, fun x h => by cases h; simp⟩
          rw [row_cell hrow, show k = l3 by omega, part_full _ _ _ hle, Nat.zero_add]
          simp
        clear hS1 hrow hmk h3 hle
        have hc4 : X.cell? ⟨w.heap.size, 4, none⟩ = some (.slice none 0 0) := row_cell hrec 4
        have hz4 : X.frozen? ⟨w.heap.size, 4, none⟩ = false := row_free hrec 4
        have hlx : w.heap.size < X.heap.size := by omega
        cases a4 with
        | none =>
          have hl4 : l4 = 0 := by
            have := h4.cells
            by_cases h : 0 < l4
            · obtain ⟨b, off, e, _⟩ := this h
              cases e
            · omega
          subst hl4
          have hq4 : decide ((l5 : Int) < 0) = false := by simp
          clear h4 h5
          go_wp2
          go_ret
          exact ⟨rfl, _, _, ⟨hrec, hdv, 0, by omega, Or.inl ⟨rfl, rfl⟩⟩, hbel⟩
        | some x4 =>
          by_cases hl5 : l5 < l4
          · have hq5 : decide ((l5 : Int) < (l4 : Int)) = true := by simp; omega
            have hmkn := hmk2 l5 (by omega)
            go_wp2
            go_loopw [16] (fun i wq => ∃ (k : Nat) (arr : Array Value), k ≤ l5 ∧ i = .int .i64 k ∧ wq.heap[w.heap.size]? = some (.cells (recCells st base (.slice ar lr cr) (.slice (some ⟨w.heap.size + 1, 0, none⟩) l3 l3) (.slice (some ⟨S1, 0, none⟩) l5 l5) (.slice none 0 0) (.slice none 0 0)) 58) ∧
                wq.heap[S1]? = some (.cells arr 60) ∧ arr.size = l5 * 2 ∧ wq.heap.size = S1 + 1 ∧ Below w.heap.size w wq ∧ Kept w.heap.size X wq) (fun i _ => l5 - (intOf i).toNat)
            case atStart =>
              refine ⟨0, twos l5, Nat.zero_le _, rfl, ?_, ?_, twos_size _, ?_, ?_, ?_⟩
              · rw [Below.heap_alloc _ _ _ (by simp; omega)]
                have := row_set hrec 4 (.slice (some ⟨S1, 0, none⟩) l5 l5)
                simpa using this
              · have := heap_new (X.setCell ⟨w.heap.size, 4, none⟩ (.slice (some ⟨S1, 0, none⟩) l5 l5)) (.cells (twos l5) 60)
                simpa [hsz] using this
              · simp [hsz]
              · exact (hbel.setCell (p := ⟨w.heap.size, 4, none⟩) (Nat.le_refl _) _).alloc (by simp; omega) _
              · refine ⟨by simp, fun k hk hne => ?_⟩
                rw [Below.heap_alloc _ _ _ (by simpa using hk)]
                exact Below.heap_setCell _ _ _ _ hne
            case round =>
              obtain ⟨k, arr, hk, rfl, hrec2, hrow2, hars, hsz2, hbel2, hkep⟩ := hrel
              by_cases hlt : k < l5
              · obtain ⟨b4, o4, q4, e4, hx4, _⟩ := rd_at h4 k (by omega)
                obtain ⟨b5, o5, q5, e5, hx5, _⟩ := rd_at h5 k (by omega)
                cases e4
                cases e5
                have hb4 : b4 < w.heap.size := h4.lt (by omega)
                have hb5 : b5 < w.heap.size := h5.lt (by omega)
                have hy4 : wr.cell? ⟨b4, o4 + k, none⟩ = some (.int .u64 q4) := (hbel2.cell (p := ⟨b4, o4 + k, none⟩) hb4).trans hx4
                have hy5 : wr.cell? ⟨b5, o5 + k, none⟩ = some (.int .u64 q5) := (hbel2.cell (p := ⟨b5, o5 + k, none⟩) hb5).trans hx5
                have hf4 : wr.cell? ⟨w.heap.size, 4, none⟩ = some (.slice (some ⟨S1, 0, none⟩) l5 l5) := row_cell hrec2 4
                obtain ⟨⟨y0, hy0⟩, ⟨y1, hy1⟩⟩ := two_cells hrow2 hars k hlt
                have hz0 := row_free hrow2 (k * 2)
                have hz1 := row_free hrow2 (k * 2 + 1)
                have hk0 : (0 : Int) ≤ (k : Int) := by omega
                have hk1 : (k : Int) < (l5 : Int) := by omega
                have hk2 : (k : Int) < (l4 : Int) := by omega
                have hk3 : (k : Int) < (l5 : Int) := by omega
                have hS : wr.drew.cell? ⟨w.heap.size, 4, none⟩ = some (.slice (some ⟨S1, 0, none⟩) l5 l5) ∧ wr.drew.cell? ⟨b4, o4 + k, none⟩ = some (.int .u64 q4) ∧ wr.drew.cell? ⟨b5, o5 + k, none⟩ = some (.int .u64 q5) := ⟨hf4, hy4, hy5⟩
                obtain ⟨W2, hW2⟩ : ∃ W2, W2 = ((wr.setCell ⟨S1, k * 2, none⟩ (.int .u64 q4)).setCell ⟨S1, k * 2 + 1, none⟩ (.int .u64 q5)).drew := ⟨_, rfl⟩
                have hS2 : W2.cell? ⟨w.heap.size, 4, none⟩ = some (.slice (some ⟨S1, 0, none⟩) l5 l5) ∧ W2.cell? ⟨b4, o4 + k, none⟩ = some (.int .u64 q4) ∧ W2.cell? ⟨b5, o5 + k, none⟩ = some (.int .u64 q5) := by
                  rw [hW2]
                  refine ⟨?_, ?_, ?_⟩ <;> (show (World.setCell _ _ _).cell? _ = _; rw [World.cell?_setCell_other _ _ _ _ (by simp <;> omega), World.cell?_setCell_other _ _ _ _ (by simp <;> omega)]; assumption)
                have hrel2 : ∃ arr' : Array Value, W2.heap[w.heap.size]? = some (.cells (recCells st base (.slice ar lr cr) (.slice (some ⟨w.heap.size + 1, 0, none⟩) l3 l3) (.slice (some ⟨S1, 0, none⟩) l5 l5) (.slice none 0 0) (.slice none 0 0)) 58) ∧
                    W2.heap[S1]? = some (.cells arr' 60) ∧ arr'.size = l5 * 2 ∧ W2.heap.size = S1 + 1 ∧ Below w.heap.size w W2 ∧ Kept w.heap.size X W2 := by
                  rw [hW2]
                  refine ⟨_, ?_, row_set (row_set hrow2 (k * 2) (.int .u64 q4)) (k * 2 + 1) (.int .u64 q5), by simpa using hars, by simpa using hsz2, ?_, ?_⟩
                  · show (World.setCell _ _ _).heap[w.heap.size]? = _
                    rw [Below.heap_setCell _ _ _ _ (by simp; omega), Below.heap_setCell _ _ _ _ (by simp; omega)]
                    exact hrec2
                  · exact ((hbel2.setCell (p := ⟨S1, k * 2, none⟩) (by simp; omega) _).setCell (p := ⟨S1, k * 2 + 1, none⟩) (by simp; omega) _).drew
                  · refine ⟨by simpa using hkep.size, fun j hj hne => ?_⟩
                    show (World.setCell _ _ _).heap[j]? = _
                    rw [Below.heap_setCell _ _ _ _ (by simp; omega), Below.heap_setCell _ _ _ _ (by simp; omega)]
                    exact hkep.block j hj hne
                have HR : Hid _ := hrel2
                have HS2 : Hid _ := hS2
                have HW : Hid (W2 = ((wr.setCell ⟨S1, k * 2, none⟩ (.int .u64 q4)).setCell ⟨S1, k * 2 + 1, none⟩ (.int .u64 q5)).drew) := hW2
                clear hrel2 hS2 hW2 hrec2 hrow2 hars hsz2 hbel2 hkep hrec hsz hbel h4 h5 hdv hx4 hx5 hmk2 hmkn hc4 hz4
                go_wp2
                go_region_held3 (fun x => x.cell? ⟨w.heap.size, 4, none⟩ = some (.slice (some ⟨S1, 0, none⟩) l5 l5) ∧ x.cell? ⟨b4, o4 + k, none⟩ = some (.int .u64 q4) ∧ x.cell? ⟨b5, o5 + k, none⟩ = some (.int .u64 q5))
                  (first | exact hS | (have := HS2.out; rw [HW.out] at this; exact this)) (fail)
                obtain ⟨arr', g1, g2, g3, g4, g5, g6⟩ := HR.out
                have HG : Hid _ := And.intro g1 (And.intro g2 (And.intro g3 (And.intro g4 (And.intro g5 g6))))
                clear g1 g2 g3 g4 g5 g6 HR HS2
                go_wp2
                go_roundw
                case rel => exact ⟨k + 1, arr', by omega, by go_num, by have := HG.out; rw [HW.out] at this; exact this⟩
                case measure => simp [intOf]; omega
              · go_wp2
                go_ret
                refine ⟨rfl, _, _, ⟨hrec2, ?_, l5, by omega, Or.inr ⟨S1, arr, rfl, hrow2, hars⟩⟩, hbel2⟩
                obtain ⟨ad, nd, cd, zd, ed, md, mc, hd, hne⟩ := hdv
                exact ⟨ad, nd, cd, zd, ed, md, mc, hd.kept hkep hne, hne⟩
          · have hq5 : decide ((l5 : Int) < (l4 : Int)) = false := by simp; omega
            have hmkn := hmk2 l4 (by omega)
            go_wp2
            go_loopw [16] (fun i wq => ∃ (k : Nat) (arr : Array Value), k ≤ l4 ∧ i = .int .i64 k ∧ wq.heap[w.heap.size]? = some (.cells (recCells st base (.slice ar lr cr) (.slice (some ⟨w.heap.size + 1, 0, none⟩) l3 l3) (.slice (some ⟨S1, 0, none⟩) l4 l4) (.slice none 0 0) (.slice none 0 0)) 58) ∧
                wq.heap[S1]? = some (.cells arr 60) ∧ arr.size = l4 * 2 ∧ wq.heap.size = S1 + 1 ∧ Below w.heap.size w wq ∧ Kept w.heap.size X wq) (fun i _ => l4 - (intOf i).toNat)
            case atStart =>
              refine ⟨0, twos l4, Nat.zero_le _, rfl, ?_, ?_, twos_size _, ?_, ?_, ?_⟩
              · rw [Below.heap_alloc _ _ _ (by simp; omega)]
                have := row_set hrec 4 (.slice (some ⟨S1, 0, none⟩) l4 l4)
                simpa using this
              · have := heap_new (X.setCell ⟨w.heap.size, 4, none⟩ (.slice (some ⟨S1, 0, none⟩) l4 l4)) (.cells (twos l4) 60)
                simpa [hsz] using this
              · simp [hsz]
              · exact (hbel.setCell (p := ⟨w.heap.size, 4, none⟩) (Nat.le_refl _) _).alloc (by simp; omega) _
              · refine ⟨by simp, fun k hk hne => ?_⟩
                rw [Below.heap_alloc _ _ _ (by simpa using hk)]
                exact Below.heap_setCell _ _ _ _ hne
            case round =>
              obtain ⟨k, arr, hk, rfl, hrec2, hrow2, hars, hsz2, hbel2, hkep⟩ := hrel
              by_cases hlt : k < l4
              · obtain ⟨b4, o4, q4, e4, hx4, _⟩ := rd_at h4 k (by omega)
                obtain ⟨b5, o5, q5, e5, hx5, _⟩ := rd_at h5 k (by omega)
                cases e4
                cases e5
                have hb4 : b4 < w.heap.size := h4.lt (by omega)
                have hb5 : b5 < w.heap.size := h5.lt (by omega)
                have hy4 : wr.cell? ⟨b4, o4 + k, none⟩ = some (.int .u64 q4) := (hbel2.cell (p := ⟨b4, o4 + k, none⟩) hb4).trans hx4
                have hy5 : wr.cell? ⟨b5, o5 + k, none⟩ = some (.int .u64 q5) := (hbel2.cell (p := ⟨b5, o5 + k, none⟩) hb5).trans hx5
                have hf4 : wr.cell? ⟨w.heap.size, 4, none⟩ = some (.slice (some ⟨S1, 0, none⟩) l4 l4) := row_cell hrec2 4
                obtain ⟨⟨y0, hy0⟩, ⟨y1, hy1⟩⟩ := two_cells hrow2 hars k hlt
                have hz0 := row_free hrow2 (k * 2)
                have hz1 := row_free hrow2 (k * 2 + 1)
                have hk0 : (0 : Int) ≤ (k : Int) := by omega
                have hk1 : (k : Int) < (l4 : Int) := by omega
                have hk2 : (k : Int) < (l4 : Int) := by omega
                have hk3 : (k : Int) < (l5 : Int) := by omega
                have hS : wr.drew.cell? ⟨w.heap.size, 4, none⟩ = some (.slice (some ⟨S1, 0, none⟩) l4 l4) ∧ wr.drew.cell? ⟨b4, o4 + k, none⟩ = some (.int .u64 q4) ∧ wr.drew.cell? ⟨b5, o5 + k, none⟩ = some (.int .u64 q5) := ⟨hf4, hy4, hy5⟩
                obtain ⟨W2, hW2⟩ : ∃ W2, W2 = ((wr.setCell ⟨S1, k * 2, none⟩ (.int .u64 q4)).setCell ⟨S1, k * 2 + 1, none⟩ (.int .u64 q5)).drew := ⟨_, rfl⟩
                have hS2 : W2.cell? ⟨w.heap.size, 4, none⟩ = some (.slice (some ⟨S1, 0, none⟩) l4 l4) ∧ W2.cell? ⟨b4, o4 + k, none⟩ = some (.int .u64 q4) ∧ W2.cell? ⟨b5, o5 + k, none⟩ = some (.int .u64 q5) := by
                  rw [hW2]
                  refine ⟨?_, ?_, ?_⟩ <;> (show (World.setCell _ _ _).cell? _ = _; rw [World.cell?_setCell_other _ _ _ _ (by simp <;> omega), World.cell?_setCell_other _ _ _ _ (by simp <;> omega)]; assumption)
                have hrel2 : ∃ arr' : Array Value, W2.heap[w.heap.size]? = some (.cells (recCells st base (.slice ar lr cr) (.slice (some ⟨w.heap.size + 1, 0, none⟩) l3 l3) (.slice (some ⟨S1, 0, none⟩) l4 l4) (.slice none 0 0) (.slice none 0 0)) 58) ∧
                    W2.heap[S1]? = some (.cells arr' 60) ∧ arr'.size = l4 * 2 ∧ W2.heap.size = S1 + 1 ∧ Below w.heap.size w W2 ∧ Kept w.heap.size X W2 := by
                  rw [hW2]
                  refine ⟨_, ?_, row_set (row_set hrow2 (k * 2) (.int .u64 q4)) (k * 2 + 1) (.int .u64 q5), by simpa using hars, by simpa using hsz2, ?_, ?_⟩
                  · show (World.setCell _ _ _).heap[w.heap.size]? = _
                    rw [Below.heap_setCell _ _ _ _ (by simp; omega), Below.heap_setCell _ _ _ _ (by simp; omega)]
                    exact hrec2
                  · exact ((hbel2.setCell (p := ⟨S1, k * 2, none⟩) (by simp; omega) _).setCell (p := ⟨S1, k * 2 + 1, none⟩) (by simp; omega) _).drew
                  · refine ⟨by simpa using hkep.size, fun j hj hne => ?_⟩
                    show (World.setCell _ _ _).heap[j]? = _
                    rw [Below.heap_setCell _ _ _ _ (by simp; omega), Below.heap_setCell _ _ _ _ (by simp; omega)]
                    exact hkep.block j hj hne
                have HR : Hid _ := hrel2
                have HS2 : Hid _ := hS2
                have HW : Hid (W2 = ((wr.setCell ⟨S1, k * 2, none⟩ (.int .u64 q4)).setCell ⟨S1, k * 2 + 1, none⟩ (.int .u64 q5)).drew) := hW2
                clear hrel2 hS2 hW2 hrec2 hrow2 hars hsz2 hbel2 hkep hrec hsz hbel h4 h5 hdv hx4 hx5 hmk2 hmkn hc4 hz4
                go_wp2
                go_region_held3 (fun x => x.cell? ⟨w.heap.size, 4, none⟩ = some (.slice (some ⟨S1, 0, none⟩) l4 l4) ∧ x.cell? ⟨b4, o4 + k, none⟩ = some (.int .u64 q4) ∧ x.cell? ⟨b5, o5 + k, none⟩ = some (.int .u64 q5))
                  (first | exact hS | (have := HS2.out; rw [HW.out] at this; exact this)) (fail)
                obtain ⟨arr', g1, g2, g3, g4, g5, g6⟩ := HR.out
                have HG : Hid _ := And.intro g1 (And.intro g2 (And.intro g3 (And.intro g4 (And.intro g5 g6))))
                clear g1 g2 g3 g4 g5 g6 HR HS2
                go_wp2
                go_roundw
                case rel => exact ⟨k + 1, arr', by omega, by go_num, by have := HG.out; rw [HW.out] at this; exact this⟩
                case measure => simp [intOf]; omega
              · go_wp2
                go_ret
                refine ⟨rfl, _, _, ⟨hrec2, ?_, l4, by omega, Or.inr ⟨S1, arr, rfl, hrow2, hars⟩⟩, hbel2⟩
                obtain ⟨ad, nd, cd, zd, ed, md, mc, hd, hne⟩ := hdv
                exact ⟨ad, nd, cd, zd, ed, md, mc, hd.kept hkep hne, hne⟩
end Go.Proofs.Qxb6604703a
