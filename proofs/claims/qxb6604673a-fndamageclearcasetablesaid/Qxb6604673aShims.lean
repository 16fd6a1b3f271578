/- The walks of the shims ZZnewDamageSet, ZZdamageChange, ZZdamageFind, ZZdamageClear, ZZdamageHas, and of markIs. -/
import Derived.Test.Qxb6604673aMarks
import Derived.Test.Qxb6604673aClear
import Derived.Test.Qxb6604673aReads
namespace Go.Proofs.Qxb6604673a
open Go.RowKit Go.Maps
open Go.MuLone

set_option maxHeartbeats 800000 in
theorem new_any (w : World) : Calls Try.prog 7 #[] w fun e w' => e = .returned (.pointer (some ⟨w.heap.size, 0, none⟩)) ∧ w' = w.alloc (.cells #[.int .i32 0, .int .u32 0, .map none] 53) := by
  go_enter Try.func7, Try.ntmps7
  go_wp2_with fail
  go_ret
  exact ⟨rfl, rfl⟩

theorem St.new (w : World) : St (w.alloc (.cells #[.int .i32 0, .int .u32 0, .map none] 53)) w.heap.size 0 (.map []) := by
  have h := heap_new w (.cells #[.int .i32 0, .int .u32 0, .map none] 53)
  exact ⟨cell_of_row _ _ 0 _ _ _ h, ⟨.map none, cell_of_row _ _ 2 _ _ _ h, Or.inl ⟨rfl, rfl⟩⟩, fun o => by unfold World.frozen?; rw [h]; simp⟩

theorem below_box (w : World) (o : Obj) : Below w.heap.size w (w.alloc o) := (Below.refl _ _).alloc (Nat.le_refl _) _

theorem info22 {cs : List Value} (hcs : cs.length = 32) : (Try.prog.info? 22).map (·.size) = some cs.toArray.size := by rw [size22]; simp [hcs]

set_option maxHeartbeats 800000 in
theorem zzchange (sb N : Nat) (D : DataW Unit) (cs : List Value) (hcs : cs.length = 32) (kl : Lit) (hkey : keyOf Try.prog 55 (.agg cs.toArray) = some kl) (t : Int) (w : World) (hN : N ≤ 1000) (hst : St w sb N D) :
    Calls Try.prog 8 #[.pointer (some ⟨sb, 0, none⟩), .agg cs.toArray, .int .u64 t] w fun e w' => e = .returned (.tuple #[]) ∧ St w' sb (N + 1) (chg D kl t) ∧ Below sb w w' := by
  have hi := info22 hcs
  have hst1 := hst.below (below_box w (.cells cs.toArray 22))
  have hb1 := (below_box w (.cells cs.toArray 22)).mono (Nat.le_of_lt hst.lt)
  go_enter Try.func8, Try.ntmps8
  go_wp2_with (first
    | (refine wpList_load_row rfl 22 _ rfl w.heap.size rfl 22 cs.toArray (0, 0) _ (heap_new _ _) Try.underlying22 rfl hi ?_)
    | (go_at_call 21; refine (change_any sb N D cs hcs kl hkey t _ hN hst1).mono ?_; rintro e w1 ⟨rfl, hst2, hb2⟩))
  go_end0
  exact ⟨rfl, hst2, hb1.trans hb2⟩

set_option maxHeartbeats 800000 in
theorem zzclear (sb N : Nat) (D : DataW Unit) (cs : List Value) (hcs : cs.length = 32) (kl : Lit) (hkey : keyOf Try.prog 55 (.agg cs.toArray) = some kl) (t : Int) (w : World) (hst : St w sb N D) :
    Calls Try.prog 10 #[.pointer (some ⟨sb, 0, none⟩), .agg cs.toArray, .int .u64 t] w fun e w' => e = .returned (.tuple #[]) ∧ St w' sb N (clr D kl t) ∧ Below sb w w' := by
  have hi := info22 hcs
  have hst1 := hst.below (below_box w (.cells cs.toArray 22))
  have hb1 := (below_box w (.cells cs.toArray 22)).mono (Nat.le_of_lt hst.lt)
  go_enter Try.func10, Try.ntmps10
  go_wp2_with (first
    | (refine wpList_load_row rfl 22 _ rfl w.heap.size rfl 22 cs.toArray (0, 0) _ (heap_new _ _) Try.underlying22 rfl hi ?_)
    | (go_at_call 23; refine (clear_any sb N D cs hcs kl hkey t _ hst1).mono ?_; rintro e w1 ⟨rfl, hst2, hb2⟩))
  go_end0
  exact ⟨rfl, hst2, hb1.trans hb2⟩

set_option maxHeartbeats 800000 in
theorem zzfind (sb N : Nat) (D : DataW Unit) (cs : List Value) (hcs : cs.length = 32) (kl : Lit) (hkey : keyOf Try.prog 55 (.agg cs.toArray) = some kl) (w : World) (hN : N ≤ 1000) (hst : St w sb N D) :
    Calls Try.prog 9 #[.pointer (some ⟨sb, 0, none⟩), .agg cs.toArray] w fun e w' => e = .returned (.bool (!fo D kl)) ∧ St w' sb (N + 1) (fnd D kl) ∧ Below sb w w' := by
  have hi := info22 hcs
  have hst1 := hst.below (below_box w (.cells cs.toArray 22))
  have hb1 := (below_box w (.cells cs.toArray 22)).mono (Nat.le_of_lt hst.lt)
  go_enter Try.func9, Try.ntmps9
  go_wp2_with (first
    | (refine wpList_load_row rfl 22 _ rfl w.heap.size rfl 22 cs.toArray (0, 0) _ (heap_new _ _) Try.underlying22 rfl hi ?_)
    | (go_at_call 22; refine (find_any sb N D cs hcs kl hkey _ hN hst1).mono ?_; rintro e w1 ⟨rfl, hst2, hb2⟩))
  go_ret
  exact ⟨rfl, hst2, hb1.trans hb2⟩

set_option maxHeartbeats 800000 in
set_option maxRecDepth 100000 in
theorem zzhas (sb N : Nat) (D : DataW Unit) (cs : List Value) (hcs : cs.length = 32) (kl : Lit) (hkey : keyOf Try.prog 55 (.agg cs.toArray) = some kl) (w : World) (hst : St w sb N D) :
    Calls Try.prog 13 #[.pointer (some ⟨sb, 0, none⟩), .agg cs.toArray] w fun e w' => e = .returned (.bool (Maps.has D kl)) ∧ Below w.heap.size w w' := by
  have hu := Try.underlying22
  have hi : (Try.prog.info? 22).map (·.size) = some cs.length := by rw [size22, hcs]
  have hst1 := (hst.below (below_box w (.cells cs.toArray 22))).below (w' := (w.alloc (.cells cs.toArray 22)).drew) (Below.refl _ _).drew
  have hb1 := below_box w (.cells cs.toArray 22)
  have hr : (w.alloc (.cells cs.toArray 22)).drew.rangeAt w.heap.size 0 cs := range_of_block (heap_new w _)
  obtain ⟨ib, hib⟩ : ∃ ib, Maps.has D kl = ib := ⟨_, rfl⟩
  rw [hib]
  go_enter Try.func13, Try.ntmps13
  go_wp2_with fail
  go_region_held3 (fun x => x.rangeAt w.heap.size 0 cs) (first | exact hr | exact hr1)
    ((go_at_call 25; refine (has_any sb N D cs hcs kl hkey _ hst1).mono ?_; rintro e w1 ⟨rfl, hb2⟩
      have hr1 : w1.rangeAt w.heap.size 0 cs := range_of_block ((hb2.block w.heap.size (by simp)).trans (heap_new w _))))
  go_wp2_with fail
  go_ret
  exact ⟨rfl, hb1.drew.trans (hb2.mono (B' := w.heap.size) (by simp))⟩

/-- A whole array out of a block, an operation under a guard that says yes. -/
theorem load_guarded {P : Program} {ops : Array Oper} {rest : List Oper} {o : Oper} {a : Act} {w : World} {Q : Exit → Act → World → Prop} (hw : Region.wanted o (yielded ops a.tmps) = true) (ty : TypeId) (x : Operand) (ho : o.op = .load ty x)
    (g : Nat) (hx : a.eval x = .pointer (some ⟨g, 0, none⟩)) (t : TypeId) (cs : Array Value) (fr : Nat × Nat) (d : TypeDesc) (hg : w.heap[g]? = some (.cells cs t fr))
    (hu : P.underlying ty = some d) (hd : (match d with | .struct _ | .array _ _ => true | _ => false) = true) (hi : (P.info? ty).map (·.size) = some cs.size)
    (h : wpList P ops Q rest (a.put o.dst (.agg cs)) w) : wpList P ops Q (o :: rest) a w := by
  simp only [wpList, hw, if_true]
  exact Or.inl (wp_load_row ty x ho g hx t cs fr d hg hu hd hi h)

set_option maxHeartbeats 800000 in
set_option maxRecDepth 100000 in
theorem markIs_yes (sb N : Nat) (D : DataW Unit) (cs : List Value) (hcs : cs.length = 32) (kl : Lit) (hkey : keyOf Try.prog 55 (.agg cs.toArray) = some kl) (i f : Bool) (t : Int) (w : World) (hst : St w sb N D)
    (h1 : Maps.has D kl = i) (h2 : i = true → fo D kl = f ∧ tl D kl = t) :
    Calls Try.prog 11 #[.pointer (some ⟨sb, 0, none⟩), .agg cs.toArray, .bool i, .bool f, .int .u64 t] w fun e w' => e = .returned (.bool true) ∧ Below w.heap.size w w' := by
  have hi := info22 hcs
  have hb0 := below_box w (.cells cs.toArray 22)
  have hst1 := hst.below hb0
  cases i
  · clear h2
    go_enter Try.func11, Try.ntmps11
    go_wp2_with (first
      | (refine wpList_load_row rfl 22 _ rfl w.heap.size rfl 22 cs.toArray (0, 0) _ (heap_new _ _) Try.underlying22 rfl hi ?_)
      | (refine load_guarded rfl 22 _ rfl w.heap.size rfl 22 cs.toArray (0, 0) _ hk1 Try.underlying22 rfl hi ?_)
      | (go_at_call 24; refine (mark_any sb N D cs hcs kl hkey _ hst1).mono ?_; rintro e w1 ⟨rfl, hb1⟩; have hst2 := hst1.below hb1; have hk1 := (hb1.block w.heap.size (by simp)).trans (heap_new w (.cells cs.toArray 22)))
      | (go_at_call 13; refine (zzhas sb N D cs hcs kl hkey _ hst2).mono ?_; rintro e w2 ⟨rfl, hb2⟩))
    go_ret
    exact ⟨rfl, (hb0.trans (hb1.mono (by simp))).trans (hb2.mono (by have := hb1.size; simp at this; omega))⟩
  · obtain ⟨rfl, rfl⟩ := h2 rfl
    clear h2
    go_enter Try.func11, Try.ntmps11
    go_wp2_with (first
      | (refine wpList_load_row rfl 22 _ rfl w.heap.size rfl 22 cs.toArray (0, 0) _ (heap_new _ _) Try.underlying22 rfl hi ?_)
      | (refine load_guarded rfl 22 _ rfl w.heap.size rfl 22 cs.toArray (0, 0) _ hk1 Try.underlying22 rfl hi ?_)
      | (go_at_call 24; refine (mark_any sb N D cs hcs kl hkey _ hst1).mono ?_; rintro e w1 ⟨rfl, hb1⟩; have hst2 := hst1.below hb1; have hk1 := (hb1.block w.heap.size (by simp)).trans (heap_new w (.cells cs.toArray 22)))
      | (go_at_call 13; refine (zzhas sb N D cs hcs kl hkey _ hst2).mono ?_; rintro e w2 ⟨rfl, hb2⟩))
    go_ret
    exact ⟨rfl, (hb0.trans (hb1.mono (by simp))).trans (hb2.mono (by have := hb1.size; simp at this; omega))⟩

end Go.Proofs.Qxb6604673a
