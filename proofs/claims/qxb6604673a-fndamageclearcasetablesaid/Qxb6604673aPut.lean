/- 'put': the walk of (*keyMap[damage]).put, and small laws on worlds. -/
import Derived.Test.Qxb6604673aMaps
import Derived.Test.Qxb6604673aLocks
import Derived.Conc.MuLone
import Derived.WalkSpells
import Derived.Deep.RegionHeld3
import Derived.Deep.MidRow
import Derived.BigQuiet
namespace Go.Proofs.Qxb6604673a
open Go.RowKit Go.Maps
open Go.MuLone

theorem cell_alloc (x : World) (o : Obj) (b off : Nat) (h : b < x.heap.size) : (x.alloc o).cell? ⟨b, off, none⟩ = x.cell? ⟨b, off, none⟩ :=
  World.cell?_of_block (w := x) (Below.heap_alloc x o b h)
theorem frozen_alloc (x : World) (o : Obj) (b off : Nat) (h : b < x.heap.size) : (x.alloc o).frozen? ⟨b, off, none⟩ = x.frozen? ⟨b, off, none⟩ :=
  World.frozen?_of_block (w := x) (Below.heap_alloc x o b h)
theorem heap_new (w : World) (o : Obj) : (w.alloc o).heap[w.heap.size]? = some o := (MapKept.heap_alloc w o).1
theorem range_of_block {x : World} {b : Nat} {cs : List Value} {t : TypeId} {fr : Nat × Nat} (h : x.heap[b]? = some (.cells cs.toArray t fr)) : x.rangeAt b 0 cs := by
  intro j v hv
  rw [Nat.zero_add]
  simp [World.cell?, h, hv]

/-- What the store's region asks of the world. -/
abbrev PutS (sb bm g : Nat) (cs : List Value) (f : Bool) (t : Int) (x : World) : Prop :=
  x.cell? ⟨sb, 2, none⟩ = some (.map (some bm)) ∧ x.rangeAt g 0 cs ∧ x.cell? ⟨g + 1, 0, none⟩ = some (.bool f) ∧ x.cell? ⟨g + 1, 1, none⟩ = some (.int .u64 t)

theorem put_store {W : World} {sb bm g N : Nat} {cs : List Value} {f : Bool} {t : Int} {D : DataW Unit} {kl : Lit} (hkey : keyOf Try.prog 55 (.agg cs.toArray) = some kl) (hN : N ≤ 1000)
    (h0 : W.heap[g]? = some (.cells cs.toArray 55)) (h1 : W.heap[g + 1]? = some (.cells #[.bool f, .int .u64 t] 60)) (c2 : W.cell? ⟨sb, 2, none⟩ = some (.map (some bm)))
    (hlt : sb < bm) (hg : sb < g) (n0 : bm ≠ g) (n1 : bm ≠ g + 1) (ho : W.ownsMap Try.prog 55 mark bm N D) :
    PutS sb bm g cs f t W ∧ ∃ w1, (Instr.mapUpdate 49 (.map (some bm)) (.agg cs.toArray) (.agg #[.bool f, .int .u64 t])).run Try.prog W.drew = .ok () w1 ∧ PutS sb bm g cs f t w1 ∧
      Mp w1 sb (.map (some bm)) (N + 1) (D.put kl (dm f t)) ∧ W.grownBy w1 (some bm) ∧ (∀ a, w1.frozen? a = W.frozen? a) := by
  obtain ⟨w1, hrun, hm1, hgr, hfr⟩ := owns_put (w := W.drew) ho.drew hlt hN hkey f t
  have hb : ∀ b, b < W.heap.size → b ≠ bm → w1.heap[b]? = W.heap[b]? := fun b h h' => hgr.block b h (by simp; omega)
  have l1 : g + 1 < W.heap.size := (Array.getElem?_eq_some_iff.1 h1).1
  have e0 : w1.heap[g]? = some (.cells cs.toArray 55) := (hb g (by omega) (by omega)).trans h0
  have e1 : w1.heap[g + 1]? = some (.cells #[.bool f, .int .u64 t] 60) := (hb _ l1 (by omega)).trans h1
  have e2 : w1.cell? ⟨sb, 2, none⟩ = some (.map (some bm)) := (World.cell?_of_block (w := W) (hb sb (by omega) (by omega))).trans c2
  exact ⟨⟨c2, range_of_block h0, by simp [World.cell?, h1], by simp [World.cell?, h1]⟩, w1, hrun, ⟨e2, range_of_block e0, by simp [World.cell?, e1], by simp [World.cell?, e1]⟩, hm1, ⟨hgr.os, hgr.tape, hgr.output, hgr.size, hgr.block⟩, hfr⟩

set_option maxHeartbeats 800000 in
set_option maxRecDepth 100000 in
/-- 'put': the entry at the key is laid. -/
theorem put_any (sb N : Nat) (mv : Value) (D : DataW Unit) (cs : List Value) (hcs : cs.length = 32) (kl : Lit) (hkey : keyOf Try.prog 55 (.agg cs.toArray) = some kl) (f : Bool) (t : Int) (w : World)
    (c2 : w.cell? ⟨sb, 2, none⟩ = some mv) (f2 : w.frozen? ⟨sb, 2, none⟩ = false) (hN : N ≤ 1000) (hm : Mp w sb mv N D) :
    Calls Try.prog 30 #[.pointer (some ⟨sb, 0, none⟩), .agg cs.toArray, .agg #[.bool f, .int .u64 t]] w fun e w' => e = .returned (.tuple #[]) ∧
      ∃ mv', w'.cell? ⟨sb, 2, none⟩ = some mv' ∧ Mp w' sb mv' (N + 1) (D.put kl (dm f t)) ∧ Below sb w w' ∧ (∀ o, o ≠ 2 → w'.cell? ⟨sb, o, none⟩ = w.cell? ⟨sb, o, none⟩) ∧ (∀ o, w'.frozen? ⟨sb, o, none⟩ = w.frozen? ⟨sb, o, none⟩) ∧ (∀ b, b < w.heap.size → b ≠ sb → mv ≠ .map (some b) → w'.heap[b]? = w.heap[b]?) := by
  have q49 : ∀ (w : World) (r : Option Nat), (binOp .eql 49 (.map r) (.map none)).run Try.prog w = .ok (.bool r.isNone) w := fun w r => run_eql_map_nil w _ _ _ r Try.underlying49
  have hmm := @run_makeMap Try.prog
  have hsb : sb < w.heap.size := World.block_lt_of_cell? w ⟨sb, 2, none⟩ c2
  have hsb1 : sb < w.heap.size + 1 := by omega
  have hsb2 : sb < w.heap.size + 1 + 1 := by omega
  have ga := cell_alloc
  have gf := frozen_alloc
  have hu := Try.underlying55
  have hi : (Try.prog.info? 55).map (·.size) = some cs.length := by rw [size55, hcs]
  rcases hm with ⟨rfl, rfl⟩ | ⟨bm, rfl, hlt, ho⟩
  · have hmade := World.ownsMap_made (((w.setCell ⟨sb, 2, none⟩ (.map (some (w.heap.size + 1 + 1)))).alloc (.cells cs.toArray 55)).alloc (.cells #[.bool f, .int .u64 t] 60)) Try.prog 55 mark
    have es : (((w.setCell ⟨sb, 2, none⟩ (.map (some (w.heap.size + 1 + 1)))).alloc (.cells cs.toArray 55)).alloc (.cells #[.bool f, .int .u64 t] 60)).heap.size = w.heap.size + 1 + 1 := by simp
    rw [es] at hmade
    obtain ⟨hS, w1, hrun, hS1, hm1, hgr, hfr⟩ := put_store (g := w.heap.size) hkey (Nat.zero_le 1000)
      (by rw [Below.heap_alloc _ _ _ (by simp; omega), Below.heap_alloc _ _ _ (by simp)]; have := heap_new (w.setCell ⟨sb, 2, none⟩ (.map (some (w.heap.size + 1 + 1)))) (.cells cs.toArray 55); simpa using this)
      (by rw [Below.heap_alloc _ _ _ (by simp)]; have := heap_new ((w.setCell ⟨sb, 2, none⟩ (.map (some (w.heap.size + 1 + 1)))).alloc (.cells cs.toArray 55)) (.cells #[.bool f, .int .u64 t] 60); simpa using this)
      (by simp [ga, hsb, hsb1, hsb2]; exact World.cell?_setCell_same w _ _ c2) (by omega) hsb (by omega) (by omega) hmade
    have hgo : w1.cell? ⟨sb, 2, none⟩ = some (.map (some (w.heap.size + 1 + 1))) ∧ Mp w1 sb (.map (some (w.heap.size + 1 + 1))) (N + 1) ((DataW.map []).put kl (dm f t)) ∧ Below sb w w1 ∧ (∀ o, o ≠ 2 → w1.cell? ⟨sb, o, none⟩ = w.cell? ⟨sb, o, none⟩) ∧ (∀ o, w1.frozen? ⟨sb, o, none⟩ = w.frozen? ⟨sb, o, none⟩) ∧ (∀ b, b < w.heap.size → b ≠ sb → Value.map none ≠ .map (some b) → w1.heap[b]? = w.heap[b]?) := by
      refine ⟨hS1.1, hm1.mono (by omega), ?_, ?_, ?_, ?_⟩
      · exact ((((Below.refl sb w).setCell (Nat.le_refl _) _).alloc (by simp; omega) _).alloc (by simp; omega) _ |>.alloc (by simp; omega) _).grown hgr (by simp; omega) (fun k hk => by cases hk; omega)
      · intro o ho
        rw [World.cell?_of_block (hgr.block sb (by simp; omega) (by simp; omega))]
        simp [ga, hsb, hsb1, hsb2]
        exact World.cell?_setCell_other _ _ _ _ (by simp)
      · intro o
        rw [hfr]
        simp [gf, hsb, hsb1, hsb2]
      · intro b h1 h2 _
        rw [hgr.block b (by simp; omega) (by simp; omega), Below.heap_alloc _ _ _ (by simp; omega), Below.heap_alloc _ _ _ (by simp; omega), Below.heap_alloc _ _ _ (by simp; omega)]
        exact Below.heap_setCell _ _ _ _ h2
    have HG := hgo
    clear hgo
    have HG' : Hid _ := HG
    clear HG hm1 hgr hfr hmade es
    go_enter Try.func30, Try.ntmps30
    go_wp2_with fail
    go_region_held3 (PutS sb (w.heap.size + 1 + 1) w.heap.size cs f t) (first | exact hS1 | exact hS) (fail)
    go_end0
    exact ⟨rfl, _, HG'.out⟩
  · have hlt2 : bm < w.heap.size := ho.lt
    obtain ⟨hS, w1, hrun, hS1, hm1, hgr, hfr⟩ := put_store (W := (w.alloc (.cells cs.toArray 55)).alloc (.cells #[.bool f, .int .u64 t] 60)) (g := w.heap.size) hkey hN
      (by rw [Below.heap_alloc _ _ _ (by simp)]; exact heap_new _ _)
      (by have := heap_new (w.alloc (.cells cs.toArray 55)) (.cells #[.bool f, .int .u64 t] 60); simpa using this)
      (by simp [ga, hsb, hsb1, c2]) hlt hsb (by omega) (by omega) ((ho.alloc _).alloc _)
    have hgo : w1.cell? ⟨sb, 2, none⟩ = some (.map (some bm)) ∧ Mp w1 sb (.map (some bm)) (N + 1) (D.put kl (dm f t)) ∧ Below sb w w1 ∧ (∀ o, o ≠ 2 → w1.cell? ⟨sb, o, none⟩ = w.cell? ⟨sb, o, none⟩) ∧ (∀ o, w1.frozen? ⟨sb, o, none⟩ = w.frozen? ⟨sb, o, none⟩) ∧ (∀ b, b < w.heap.size → b ≠ sb → Value.map (some bm) ≠ .map (some b) → w1.heap[b]? = w.heap[b]?) := by
      refine ⟨hS1.1, hm1, ?_, ?_, ?_, ?_⟩
      · exact ((Below.refl sb w).alloc (by omega) _ |>.alloc (by simp; omega) _).grown hgr (by simp; omega) (fun k hk => by cases hk; omega)
      · intro o ho
        rw [World.cell?_of_block (hgr.block sb (by simp; omega) (by simp; omega))]
        simp [ga, hsb, hsb1]
      · intro o
        rw [hfr]
        simp [gf, hsb, hsb1]
      · intro b h1 h2 h3
        rw [hgr.block b (by simp; omega) (by simp; intro e; exact h3 (by rw [e])), Below.heap_alloc _ _ _ (by simp; omega), Below.heap_alloc _ _ _ h1]
    have HG' : Hid _ := hgo
    clear hgo hm1 hgr hfr ho
    go_enter Try.func30, Try.ntmps30
    go_wp2_with fail
    go_region_held3 (PutS sb bm w.heap.size cs f t) (first | exact hS1 | exact hS) (fail)
    go_end0
    exact ⟨rfl, _, HG'.out⟩
end Go.Proofs.Qxb6604673a
