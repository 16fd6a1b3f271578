/- The walk of (*damageSet).clear. -/
import Derived.Test.Qxb6604673aState
namespace Go.Proofs.Qxb6604673a
open Go.RowKit Go.Maps
open Go.MuLone

/-- 'delete', as one step of a region that draws. -/
theorem step_delete {ops : Array Oper} {o : Oper} {a : Act} {w : World} {K : Act → World → Prop} {Q : Exit → Act → World → Prop} {E : Prop} {sb N : Nat} {mv : Value} {D : DataW Unit} {key : Value} {kl : Lit}
    (hg : o.guard = none) (m x : Operand) (hop : o.op = Op.call { callee := Callee.builtin Builtin.delete, args := #[m, x], argTypes := #[49, 55] })
    (hm : a.eval m = mv) (hx : a.eval x = key) (hmp : Mp w sb mv N D) (hkey : keyOf Try.prog 55 key = some kl)
    (hK : ∀ w1, Mp w1 sb mv N (D.del kl) → Below (sb + 1) w w1 → (∀ a, w1.frozen? a = w.frozen? a) → (∀ b, b < w.heap.size → mv ≠ .map (some b) → w1.heap[b]? = w.heap[b]?) → K (a.put o.dst (.tuple #[])) w1) :
    if Region.wanted o (yielded ops a.tmps) = true then Oper.wp Try.prog o a w K Q else E := by
  have hw : Region.wanted o (yielded ops a.tmps) = true := by simp [Region.wanted, hg]
  rw [if_pos hw]
  obtain ⟨w1, hrun, h1, h2, h3, h4⟩ := hmp.drop hkey o.type
  unfold Oper.wp
  simp [execOp, hop, resolve, invoke, builtin, hm, hx, hrun, Result.andThen]
  exact hK w1 h1 h2 h3 h4

/-- Behind 'delete'. -/
theorem Lk.del {w : World} {sb N : Nat} {D D' : DataW Unit} {mv : Value} {v : Int} {g : Nat} {ty : TypeId} {cs : List Value} (h : Lk w sb N D mv v g ty cs) {w' : World} (hm : Mp w' sb mv N D') (hb : Below (sb + 1) w w')
    (hk : ∀ b, b < w.heap.size → mv ≠ .map (some b) → w'.heap[b]? = w.heap[b]?) : Lk w' sb N D' mv v g ty cs :=
  ⟨(hb.cell (p := ⟨sb, 0, none⟩) (Nat.lt_succ_self _)).trans h.c0, (hb.cell (p := ⟨sb, 2, none⟩) (Nat.lt_succ_self _)).trans h.c2, hm, fun o => (hb.frozen (p := ⟨sb, o, none⟩) (Nat.lt_succ_self _)).trans (h.fz o), (hk g h.klt h.apart).trans h.key, h.gt⟩

set_option maxHeartbeats 800000 in
set_option maxRecDepth 100000 in
theorem clear_any (sb N : Nat) (D : DataW Unit) (cs : List Value) (hcs : cs.length = 32) (kl : Lit) (hkey : keyOf Try.prog 55 (.agg cs.toArray) = some kl) (s : Int) (w : World) (hst : St w sb N D) :
    Calls Try.prog 23 #[.pointer (some ⟨sb, 0, none⟩), .agg cs.toArray, .int .u64 s] w fun e w' => e = .returned (.tuple #[]) ∧ St w' sb N (clr D kl s) ∧ Below sb w w' := by
  obtain ⟨c0, ⟨mv, c2, hm⟩, fz⟩ := hst
  have hsb : sb < w.heap.size := World.block_lt_of_cell? w ⟨sb, 2, none⟩ c2
  have hu := Try.underlying55
  have hi : (Try.prog.info? 55).map (·.size) = some cs.length := by rw [size55, hcs]
  have ga := cell_alloc
  have gf := frozen_alloc
  have hL := Lk.mk' (cs := cs) (ty := 55) c0 c2 hm fz
  have hB : Below sb w ((w.setCell ⟨sb, 0, none⟩ (.int .i32 1)).alloc (.cells cs.toArray 55)) := ((Below.refl sb w).setCell (Nat.le_refl _) _).alloc (by simp; omega) _
  obtain ⟨tb, htb⟩ : ∃ tb, tl D kl = tb := ⟨_, rfl⟩
  obtain ⟨fb, hfb⟩ : ∃ fb, fo D kl = fb := ⟨_, rfl⟩
  obtain ⟨ib, hib⟩ : ∃ ib, Maps.has D kl = ib := ⟨_, rfl⟩
  have hS := hL.drew.readsOk hkey hfb htb hib
  have hS1 := ((hL.drew.alloc (.cells #[.bool false, .int .u64 0] 60))).readsOk hkey hfb htb hib
  have hL2 := hL.drew.alloc (.cells #[.bool fb, .int .u64 tb] 60)
  have hS2 := hL2.readsOk hkey hfb htb hib
  have hB2 := hB.drew.alloc (by simp; omega) (.cells #[.bool fb, .int .u64 tb] 60)
  by_cases hc : ib = true ∧ fb = false ∧ s < tb
  · obtain ⟨rfl, rfl, hlt⟩ := hc
    have HF : Hid (clr D kl s = D) := by
      show clr D kl s = D
      unfold clr stays
      rw [hib, hfb, htb, if_pos (by simp [hlt])]
    clear hfb htb hib
    go_enter_defers Try.func23, Try.ntmps23
    go_wp2_with (go_at_call 28; refine (lock_free Try.muLib ⟨sb, 0, none⟩ _ ?_ ?_).mono ?_; (simp [ga, hsb, c0]); (simp [gf, hsb, fz]); rintro e w' ⟨rfl, rfl⟩)
    go_region_held3 (RkS sb mv w.heap.size cs false tb true) (first | exact hS | exact hS1 | exact hS2) (fail)
    all_goals
      go_wp2_with fail
      refine leaves_cons (f := 29) (args := #[.pointer (some ⟨sb, 0, none⟩)]) (by simp) (by simp [go_sem]) ?_
      refine (unlock_deferred Try.muLib ⟨sb, 0, none⟩ .returning _ hL2.c0 (hL2.fz 0)).mono ?_
      rintro e u' w'' ⟨rfl, rfl, rfl⟩
      exact ⟨_, results_none rfl _ _ _, rfl, by rw [HF.out]; exact hL2.free, hB2.setCell (Nat.le_refl _) _⟩
  · have HF : Hid (clr D kl s = D.del kl) := by
      show clr D kl s = D.del kl
      unfold clr stays
      rw [hib, hfb, htb, if_neg]
      intro e
      apply hc
      simpa [Bool.and_eq_true, and_assoc] using e
    have hr3 := range_of_block hL2.drew.key
    have hd2 := hL2.drew.c2
    rcases (show ib = false ∨ (ib = true ∧ fb = true) ∨ (ib = true ∧ fb = false ∧ ¬ s < tb) by cases ib <;> cases fb <;> simp_all) with rfl | ⟨rfl, rfl⟩ | ⟨rfl, rfl, hlt⟩
    · clear hc hfb htb hib
      go_enter_defers Try.func23, Try.ntmps23
      go_wp2_with (go_at_call 28; refine (lock_free Try.muLib ⟨sb, 0, none⟩ _ ?_ ?_).mono ?_; (simp [ga, hsb, c0]); (simp [gf, hsb, fz]); rintro e w' ⟨rfl, rfl⟩)
      go_region_held3 (RkS sb mv w.heap.size cs fb tb false) (first | exact hS | exact hS1 | exact hS2) (fail)
      all_goals
        go_wp2_with fail
        go_region_held3 (fun x => x.cell? ⟨sb, 2, none⟩ = some mv ∧ x.rangeAt w.heap.size 0 cs) (first | exact ⟨hd2, hr3⟩ | exact ⟨hL3.c2, range_of_block hL3.key⟩)
          ((refine step_delete (by rfl) _ _ (by rfl) (by rfl) (by rfl) hL2.drew.mp hkey ?_; intro w1 hm1 hb1 hf1 hk1; have hL3 := hL2.drew.del hm1 hb1 hk1; clear hf1 hk1))
        go_wp2_with fail
        refine leaves_cons (f := 29) (args := #[.pointer (some ⟨sb, 0, none⟩)]) (by simp) (by simp [go_sem]) ?_
        refine (unlock_deferred Try.muLib ⟨sb, 0, none⟩ .returning _ hL3.c0 (hL3.fz 0)).mono ?_
        rintro e u' w'' ⟨rfl, rfl, rfl⟩
        exact ⟨_, results_none rfl _ _ _, rfl, by rw [HF.out]; exact hL3.free, ((hB2.drew).trans (hb1.mono (by omega))).setCell (Nat.le_refl _) _⟩
    · clear hc hfb htb hib
      go_enter_defers Try.func23, Try.ntmps23
      go_wp2_with (go_at_call 28; refine (lock_free Try.muLib ⟨sb, 0, none⟩ _ ?_ ?_).mono ?_; (simp [ga, hsb, c0]); (simp [gf, hsb, fz]); rintro e w' ⟨rfl, rfl⟩)
      go_region_held3 (RkS sb mv w.heap.size cs true tb true) (first | exact hS | exact hS1 | exact hS2) (fail)
      all_goals
        go_wp2_with fail
        go_region_held3 (fun x => x.cell? ⟨sb, 2, none⟩ = some mv ∧ x.rangeAt w.heap.size 0 cs) (first | exact ⟨hd2, hr3⟩ | exact ⟨hL3.c2, range_of_block hL3.key⟩)
          ((refine step_delete (by rfl) _ _ (by rfl) (by rfl) (by rfl) hL2.drew.mp hkey ?_; intro w1 hm1 hb1 hf1 hk1; have hL3 := hL2.drew.del hm1 hb1 hk1; clear hf1 hk1))
        go_wp2_with fail
        refine leaves_cons (f := 29) (args := #[.pointer (some ⟨sb, 0, none⟩)]) (by simp) (by simp [go_sem]) ?_
        refine (unlock_deferred Try.muLib ⟨sb, 0, none⟩ .returning _ hL3.c0 (hL3.fz 0)).mono ?_
        rintro e u' w'' ⟨rfl, rfl, rfl⟩
        exact ⟨_, results_none rfl _ _ _, rfl, by rw [HF.out]; exact hL3.free, ((hB2.drew).trans (hb1.mono (by omega))).setCell (Nat.le_refl _) _⟩
    · clear hc hfb htb hib
      go_enter_defers Try.func23, Try.ntmps23
      go_wp2_with (go_at_call 28; refine (lock_free Try.muLib ⟨sb, 0, none⟩ _ ?_ ?_).mono ?_; (simp [ga, hsb, c0]); (simp [gf, hsb, fz]); rintro e w' ⟨rfl, rfl⟩)
      go_region_held3 (RkS sb mv w.heap.size cs false tb true) (first | exact hS | exact hS1 | exact hS2) (fail)
      all_goals
        go_wp2_with fail
        go_region_held3 (fun x => x.cell? ⟨sb, 2, none⟩ = some mv ∧ x.rangeAt w.heap.size 0 cs) (first | exact ⟨hd2, hr3⟩ | exact ⟨hL3.c2, range_of_block hL3.key⟩)
          ((refine step_delete (by rfl) _ _ (by rfl) (by rfl) (by rfl) hL2.drew.mp hkey ?_; intro w1 hm1 hb1 hf1 hk1; have hL3 := hL2.drew.del hm1 hb1 hk1; clear hf1 hk1))
        go_wp2_with fail
        refine leaves_cons (f := 29) (args := #[.pointer (some ⟨sb, 0, none⟩)]) (by simp) (by simp [go_sem]) ?_
        refine (unlock_deferred Try.muLib ⟨sb, 0, none⟩ .returning _ hL3.c0 (hL3.fz 0)).mono ?_
        rintro e u' w'' ⟨rfl, rfl, rfl⟩
        exact ⟨_, results_none rfl _ _ _, rfl, by rw [HF.out]; exact hL3.free, ((hB2.drew).trans (hb1.mono (by omega))).setCell (Nat.le_refl _) _⟩
end Go.Proofs.Qxb6604673a
