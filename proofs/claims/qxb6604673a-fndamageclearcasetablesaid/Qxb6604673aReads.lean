/- The walks that leave the set as it was: ZZdamageMark, (*keyMap).has, ZZdamageLen. -/
import Derived.Test.Qxb6604673aState
namespace Go.Proofs.Qxb6604673a
open Go.RowKit Go.Maps
open Go.MuLone

/-- The lock taken and let go: every block that was there is as it was. -/
theorem relock {w x : World} {sb : Nat} (c0 : w.cell? ⟨sb, 0, none⟩ = some (.int .i32 0)) (hb : Below w.heap.size (w.setCell ⟨sb, 0, none⟩ (.int .i32 1)) x) : Below w.heap.size w (x.setCell ⟨sb, 0, none⟩ (.int .i32 0)) := by
  refine ⟨hb.os, hb.tape, hb.output, ?_, fun k hk => ?_⟩
  · have := hb.size
    simpa using this
  · by_cases e : k = sb
    · subst e
      have h1 := hb.block k hk
      unfold World.cell? at c0
      simp only [World.setCell, Array.getElem?_modify] at h1 ⊢
      simp only [if_true] at h1 ⊢
      rw [h1]
      cases ho : w.heap[k]? with
      | none => rfl
      | some o =>
        rw [ho] at c0
        cases o <;> simp_all
        rename_i c elem fr
        apply Array.ext_getElem?
        intro i
        by_cases hi : i = 0
        · subst hi
          have hsz := (Array.getElem?_eq_some_iff.1 c0).1
          rw [c0]
          simp [hsz]
        · simp [Ne.symm hi]
    · rw [Below.heap_setCell _ _ _ _ e, hb.block k hk, Below.heap_setCell _ _ _ _ e]

set_option maxHeartbeats 800000 in
set_option maxRecDepth 100000 in
theorem mark_any (sb N : Nat) (D : DataW Unit) (cs : List Value) (hcs : cs.length = 32) (kl : Lit) (hkey : keyOf Try.prog 55 (.agg cs.toArray) = some kl) (w : World) (hst : St w sb N D) :
    Calls Try.prog 24 #[.pointer (some ⟨sb, 0, none⟩), .agg cs.toArray] w fun e w' => e = .returned (.tuple #[.bool (Maps.has D kl), .bool (fo D kl), .int .u64 (tl D kl)]) ∧ Below w.heap.size w w' := by
  obtain ⟨c0, ⟨mv, c2, hm⟩, fz⟩ := hst
  have hsb : sb < w.heap.size := World.block_lt_of_cell? w ⟨sb, 2, none⟩ c2
  have hu := Try.underlying22
  have hi : (Try.prog.info? 22).map (·.size) = some cs.length := by rw [size22, hcs]
  have ga := cell_alloc
  have gf := frozen_alloc
  have hL := Lk.mk0 (cs := cs) (ty := 22) c0 c2 hm fz
  obtain ⟨tb, htb⟩ : ∃ tb, tl D kl = tb := ⟨_, rfl⟩
  obtain ⟨fb, hfb⟩ : ∃ fb, fo D kl = fb := ⟨_, rfl⟩
  obtain ⟨ib, hib⟩ : ∃ ib, Maps.has D kl = ib := ⟨_, rfl⟩
  have hS := hL.drew.readsOk hkey hfb htb hib
  have hS1 := ((hL.drew.alloc (.cells #[.bool false, .int .u64 0] 60))).readsOk hkey hfb htb hib
  have hS2 := (hL.drew.alloc (.cells #[.bool fb, .int .u64 tb] 60)).readsOk hkey hfb htb hib
  have hB : Below w.heap.size w ((w.alloc (.cells cs.toArray 22)).alloc (.cells #[.bool fb, .int .u64 tb] 60)) := ((Below.refl _ _).alloc (Nat.le_refl _) _).alloc (by simp) _
  rw [hib, hfb, htb]
  clear hfb htb hib
  go_enter Try.func24, Try.ntmps24
  go_wp2_with fail
  go_region_held3 (RkS sb mv w.heap.size cs fb tb ib) (first | exact hS | exact hS1 | exact hS2) (fail)
  all_goals
    go_wp2_with fail
    go_region
    all_goals
      go_wp2_with fail
      go_ret3
      exact ⟨rfl, hB.drew.drew⟩

set_option maxHeartbeats 800000 in
set_option maxRecDepth 100000 in
theorem has_any (sb N : Nat) (D : DataW Unit) (cs : List Value) (hcs : cs.length = 32) (kl : Lit) (hkey : keyOf Try.prog 55 (.agg cs.toArray) = some kl) (w : World) (hst : St w sb N D) :
    Calls Try.prog 25 #[.pointer (some ⟨sb, 0, none⟩), .agg cs.toArray] w fun e w' => e = .returned (.bool (Maps.has D kl)) ∧ Below w.heap.size w w' := by
  obtain ⟨c0, ⟨mv, c2, hm⟩, fz⟩ := hst
  have hsb : sb < w.heap.size := World.block_lt_of_cell? w ⟨sb, 2, none⟩ c2
  have hu := Try.underlying55
  have hi : (Try.prog.info? 55).map (·.size) = some cs.length := by rw [size55, hcs]
  have ga := cell_alloc
  have gf := frozen_alloc
  have hL := Lk.mk' (cs := cs) (ty := 55) c0 c2 hm fz
  obtain ⟨tb, htb⟩ : ∃ tb, tl D kl = tb := ⟨_, rfl⟩
  obtain ⟨fb, hfb⟩ : ∃ fb, fo D kl = fb := ⟨_, rfl⟩
  obtain ⟨ib, hib⟩ : ∃ ib, Maps.has D kl = ib := ⟨_, rfl⟩
  have hS := hL.drew.readsOk hkey hfb htb hib
  have hS1 := ((hL.drew.alloc (.cells #[.bool false, .int .u64 0] 60))).readsOk hkey hfb htb hib
  have hL2 := hL.drew.alloc (.cells #[.bool fb, .int .u64 tb] 60)
  have hS2 := hL2.readsOk hkey hfb htb hib
  have hB : Below w.heap.size (w.setCell ⟨sb, 0, none⟩ (.int .i32 1)) (((w.setCell ⟨sb, 0, none⟩ (.int .i32 1)).alloc (.cells cs.toArray 55)).drew.alloc (.cells #[.bool fb, .int .u64 tb] 60)) :=
    ((Below.refl _ _).alloc (by simp) _).drew.alloc (by simp) _
  rw [hib]
  clear hfb htb hib
  go_enter_defers Try.func25, Try.ntmps25
  go_wp2_with (go_at_call 28; refine (lock_free Try.muLib ⟨sb, 0, none⟩ _ ?_ ?_).mono ?_; (simp [ga, hsb, c0]); (simp [gf, hsb, fz]); rintro e w' ⟨rfl, rfl⟩)
  go_region_held3 (RkS sb mv w.heap.size cs fb tb ib) (first | exact hS | exact hS1 | exact hS2) (fail)
  all_goals
    go_wp2_with fail
    refine leaves_cons (f := 29) (args := #[.pointer (some ⟨sb, 0, none⟩)]) (by simp) (by simp [go_sem]) ?_
    refine (unlock_deferred Try.muLib ⟨sb, 0, none⟩ .returning _ hL2.c0 (hL2.fz 0)).mono ?_
    rintro e u' w'' ⟨rfl, rfl, rfl⟩
    exact ⟨_, results_tmp rfl _ _ _, rfl, relock c0 hB⟩

set_option maxHeartbeats 800000 in
theorem len_any (sb N : Nat) (D : DataW Unit) (w : World) (hst : St w sb N D) :
    Calls Try.prog 12 #[.pointer (some ⟨sb, 0, none⟩)] w fun e w' => e = .returned (.int .i64 (Maps.size D)) ∧ w' = w := by
  obtain ⟨c0, ⟨mv, c2, hm⟩, fz⟩ := hst
  have hlen := hm.len
  go_enter Try.func12, Try.ntmps12
  go_wp2_with fail
  go_ret
  exact ⟨rfl, rfl⟩
end Go.Proofs.Qxb6604673a
