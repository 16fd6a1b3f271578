/- The set's state as the walks carry it: its lock free ('St'); in the midst of a method, with the key in a block of its own ('Lk'). -/
import Derived.Test.Qxb6604673aPut
namespace Go.Proofs.Qxb6604673a
open Go.RowKit Go.Maps
open Go.MuLone

/-- The set at block sb, its lock free: what it holds reads as D, of at most N entries. -/
structure St (w : World) (sb N : Nat) (D : DataW Unit) : Prop where
  c0 : w.cell? ⟨sb, 0, none⟩ = some (.int .i32 0)
  c2 : ∃ mv, w.cell? ⟨sb, 2, none⟩ = some mv ∧ Mp w sb mv N D
  fz : ∀ o, w.frozen? ⟨sb, o, none⟩ = false

theorem St.mono {w : World} {sb N N' : Nat} {D : DataW Unit} (h : St w sb N D) (hn : N ≤ N') : St w sb N' D := by
  obtain ⟨c0, ⟨mv, c2, hm⟩, fz⟩ := h
  exact ⟨c0, ⟨mv, c2, hm.mono hn⟩, fz⟩

theorem St.lt {w : World} {sb N : Nat} {D : DataW Unit} (h : St w sb N D) : sb < w.heap.size := World.block_lt_of_cell? w ⟨sb, 0, none⟩ h.c0

theorem St.below {w w' : World} {sb N : Nat} {D : DataW Unit} (h : St w sb N D) (hb : Below w.heap.size w w') : St w' sb N D := by
  have hlt := h.lt
  obtain ⟨c0, ⟨mv, c2, hm⟩, fz⟩ := h
  exact ⟨(hb.cell (p := ⟨sb, 0, none⟩) hlt).trans c0, ⟨mv, (hb.cell (p := ⟨sb, 2, none⟩) hlt).trans c2, hm.below hb⟩, fun o => (hb.frozen (p := ⟨sb, o, none⟩) hlt).trans (fz o)⟩

theorem St.tidy {w : World} {sb N : Nat} {D : DataW Unit} (h : St w sb N D) : Tidy D := by
  obtain ⟨_, ⟨mv, _, hm⟩, _⟩ := h
  exact hm.tidy

/-- The lock's word is v; the key lies in block g, of type ty. -/
structure Lk (w : World) (sb N : Nat) (D : DataW Unit) (mv : Value) (v : Int) (g : Nat) (ty : TypeId) (cs : List Value) : Prop where
  c0 : w.cell? ⟨sb, 0, none⟩ = some (.int .i32 v)
  c2 : w.cell? ⟨sb, 2, none⟩ = some mv
  mp : Mp w sb mv N D
  fz : ∀ o, w.frozen? ⟨sb, o, none⟩ = false
  key : w.heap[g]? = some (.cells cs.toArray ty)
  gt : sb < g

section
variable {w : World} {sb N : Nat} {D : DataW Unit} {mv : Value} {v : Int} {g : Nat} {ty : TypeId} {cs : List Value}

theorem Lk.drew (h : Lk w sb N D mv v g ty cs) : Lk w.drew sb N D mv v g ty cs := ⟨h.c0, h.c2, h.mp, h.fz, h.key, h.gt⟩

theorem Lk.klt (h : Lk w sb N D mv v g ty cs) : g < w.heap.size := (Array.getElem?_eq_some_iff.1 h.key).1

theorem Lk.below (h : Lk w sb N D mv v g ty cs) {w' : World} (hb : Below w.heap.size w w') : Lk w' sb N D mv v g ty cs := by
  have hlt : sb < w.heap.size := World.block_lt_of_cell? w ⟨sb, 0, none⟩ h.c0
  exact ⟨(hb.cell (p := ⟨sb, 0, none⟩) hlt).trans h.c0, (hb.cell (p := ⟨sb, 2, none⟩) hlt).trans h.c2, h.mp.below hb, fun o => (hb.frozen (p := ⟨sb, o, none⟩) hlt).trans (h.fz o), (hb.block g h.klt).trans h.key, h.gt⟩

theorem Lk.alloc (h : Lk w sb N D mv v g ty cs) (o : Obj) : Lk (w.alloc o) sb N D mv v g ty cs := h.below ((Below.refl _ _).alloc (Nat.le_refl _) _)

/-- The world behind 'Lock', the key boxed. -/
theorem Lk.mk' (c0 : w.cell? ⟨sb, 0, none⟩ = some (.int .i32 0)) (c2 : w.cell? ⟨sb, 2, none⟩ = some mv) (hm : Mp w sb mv N D) (fz : ∀ o, w.frozen? ⟨sb, o, none⟩ = false) :
    Lk ((w.setCell ⟨sb, 0, none⟩ (.int .i32 1)).alloc (.cells cs.toArray ty)) sb N D mv 1 w.heap.size ty cs := by
  have hsb : sb < w.heap.size := World.block_lt_of_cell? w ⟨sb, 2, none⟩ c2
  have hsz : (w.setCell ⟨sb, 0, none⟩ (.int .i32 1)).heap.size = w.heap.size := by simp
  refine ⟨?_, ?_, (hm.setCell _ _).alloc _, fun o => ?_, ?_, hsb⟩
  · rw [cell_alloc _ _ _ _ (by omega)]; exact World.cell?_setCell_same w _ _ c0
  · rw [cell_alloc _ _ _ _ (by omega)]; exact (World.cell?_setCell_other _ _ _ _ (by simp)).trans c2
  · rw [frozen_alloc _ _ _ _ (by omega), World.frozen?_setCell]; exact fz o
  · have := heap_new (w.setCell ⟨sb, 0, none⟩ (.int .i32 1)) (.cells cs.toArray ty)
    rwa [hsz] at this

/-- The key boxed, the lock as it was. -/
theorem Lk.mk0 (c0 : w.cell? ⟨sb, 0, none⟩ = some (.int .i32 v)) (c2 : w.cell? ⟨sb, 2, none⟩ = some mv) (hm : Mp w sb mv N D) (fz : ∀ o, w.frozen? ⟨sb, o, none⟩ = false) :
    Lk (w.alloc (.cells cs.toArray ty)) sb N D mv v w.heap.size ty cs := by
  have hsb : sb < w.heap.size := World.block_lt_of_cell? w ⟨sb, 2, none⟩ c2
  exact ⟨(cell_alloc _ _ _ _ hsb).trans c0, (cell_alloc _ _ _ _ hsb).trans c2, hm.alloc _, fun o => (frozen_alloc _ _ _ _ hsb).trans (fz o), heap_new _ _, hsb⟩

/-- 'Unlock'. -/
theorem Lk.free (h : Lk w sb N D mv v g ty cs) : St (w.setCell ⟨sb, 0, none⟩ (.int .i32 0)) sb N D :=
  ⟨World.cell?_setCell_same w _ _ h.c0, ⟨mv, (World.cell?_setCell_other _ _ _ _ (by simp)).trans h.c2, h.mp.setCell _ _⟩, fun o => (World.frozen?_setCell _ _ _ _).trans (h.fz o)⟩

/-- The key's block is not the map's. -/
theorem Lk.apart (h : Lk w sb N D mv v g ty cs) : mv ≠ .map (some g) := by
  intro e
  rcases h.mp with ⟨rfl, _⟩ | ⟨bm, rfl, _, ho⟩
  · cases e
  · cases e
    obtain ⟨es, clock, hm, _⟩ := ho
    have := h.key
    rw [hm] at this
    cases this

/-- Behind 'put'. -/
theorem Lk.put (h : Lk w sb N D mv v g ty cs) {w' : World} {mv' : Value} {N' : Nat} {D' : DataW Unit} (d2 : w'.cell? ⟨sb, 2, none⟩ = some mv') (hm : Mp w' sb mv' N' D') (ho : ∀ o, o ≠ 2 → w'.cell? ⟨sb, o, none⟩ = w.cell? ⟨sb, o, none⟩)
    (hf : ∀ o, w'.frozen? ⟨sb, o, none⟩ = w.frozen? ⟨sb, o, none⟩) (hk : ∀ b, b < w.heap.size → b ≠ sb → mv ≠ .map (some b) → w'.heap[b]? = w.heap[b]?) : Lk w' sb N' D' mv' v g ty cs :=
  ⟨(ho 0 (by omega)).trans h.c0, d2, hm, fun o => (hf o).trans (h.fz o), (hk g h.klt (by have := h.gt; omega) h.apart).trans h.key, h.gt⟩

end

/-- What a look-up's region asks of the world. -/
abbrev RdS (sb : Nat) (mv : Value) (g : Nat) (cs : List Value) (fb : Bool) (tb : Int) (x : World) : Prop :=
  x.cell? ⟨sb, 2, none⟩ = some mv ∧ x.rangeAt g 0 cs ∧ (Instr.lookup 49 mv (.agg cs.toArray) false).run Try.prog x = .ok (.agg #[.bool fb, .int .u64 tb]) x

/-- .. with 'ok'. -/
abbrev RkS (sb : Nat) (mv : Value) (g : Nat) (cs : List Value) (fb : Bool) (tb : Int) (ib : Bool) (x : World) : Prop :=
  x.cell? ⟨sb, 2, none⟩ = some mv ∧ x.rangeAt g 0 cs ∧ (Instr.lookup 49 mv (.agg cs.toArray) true).run Try.prog x = .ok (.tuple #[.agg #[.bool fb, .int .u64 tb], .bool ib]) x

section
variable {w : World} {sb N : Nat} {D : DataW Unit} {mv : Value} {v : Int} {g : Nat} {ty : TypeId} {cs : List Value} {kl : Lit} {fb ib : Bool} {tb : Int}
theorem Lk.reads (h : Lk w sb N D mv v g ty cs) (hkey : keyOf Try.prog 55 (.agg cs.toArray) = some kl) (hf : fo D kl = fb) (ht : tl D kl = tb) : RdS sb mv g cs fb tb w :=
  ⟨h.c2, range_of_block h.key, by rw [h.mp.look hkey, hf, ht]⟩
theorem Lk.readsOk (h : Lk w sb N D mv v g ty cs) (hkey : keyOf Try.prog 55 (.agg cs.toArray) = some kl) (hf : fo D kl = fb) (ht : tl D kl = tb) (hi : Maps.has D kl = ib) : RkS sb mv g cs fb tb ib w :=
  ⟨h.c2, range_of_block h.key, by rw [h.mp.look_ok hkey, hf, ht, hi]⟩
end

theorem field60 (fb : Bool) (tb : Int) (w : World) : (Instr.field 60 (.agg #[.bool fb, .int .u64 tb]) 0).run Try.prog w = .ok (.bool fb) w := by
  kernel_rfl

def chg (D : DataW Unit) (k : Lit) (t : Int) : DataW Unit := if fo D k = true then D else D.put k (dm false t)
def fnd (D : DataW Unit) (k : Lit) : DataW Unit := if fo D k = true then D else D.put k (dm true 0)
def stays (D : DataW Unit) (k : Lit) (s : Int) : Bool := Maps.has D k && !fo D k && decide (s < tl D k)
def clr (D : DataW Unit) (k : Lit) (s : Int) : DataW Unit := if stays D k s = true then D else D.del k
end Go.Proofs.Qxb6604673a
