/- The walks of (*damageSet).change and (*damageSet).find. -/
import Derived.Test.Qxb6604673aState
namespace Go.Proofs.Qxb6604673a
open Go.RowKit Go.Maps
open Go.MuLone

set_option maxHeartbeats 800000 in
set_option maxRecDepth 100000 in
theorem change_any (sb N : Nat) (D : DataW Unit) (cs : List Value) (hcs : cs.length = 32) (kl : Lit) (hkey : keyOf Try.prog 55 (.agg cs.toArray) = some kl) (t : Int) (w : World) (hN : N ≤ 1000) (hst : St w sb N D) :
    Calls Try.prog 21 #[.pointer (some ⟨sb, 0, none⟩), .agg cs.toArray, .int .u64 t] w fun e w' => e = .returned (.tuple #[]) ∧ St w' sb (N + 1) (chg D kl t) ∧ Below sb w w' := by
  obtain ⟨c0, ⟨mv, c2, hm⟩, fz⟩ := hst
  have hsb : sb < w.heap.size := World.block_lt_of_cell? w ⟨sb, 2, none⟩ c2
  have hu := Try.underlying55
  have hi : (Try.prog.info? 55).map (·.size) = some cs.length := by rw [size55, hcs]
  have ga := cell_alloc
  have gf := frozen_alloc
  have hfd := field60
  have hL := Lk.mk' (cs := cs) (ty := 55) c0 c2 hm fz
  have hB : Below sb w ((w.setCell ⟨sb, 0, none⟩ (.int .i32 1)).alloc (.cells cs.toArray 55)) := ((Below.refl sb w).setCell (Nat.le_refl _) _).alloc (by simp; omega) _
  obtain ⟨tb, htb⟩ : ∃ tb, tl D kl = tb := ⟨_, rfl⟩
  cases hfo : fo D kl
  · have hS := hL.drew.reads hkey hfo htb
    have HF : Hid (chg D kl t = D.put kl (dm false t)) := by show chg D kl t = _; unfold chg; rw [if_neg (by simp [hfo])]
    clear hfo htb
    go_enter_defers Try.func21, Try.ntmps21
    go_wp2_with (go_at_call 28; refine (lock_free Try.muLib ⟨sb, 0, none⟩ _ ?_ ?_).mono ?_; (simp [ga, hsb, c0]); (simp [gf, hsb, fz]); rintro e w' ⟨rfl, rfl⟩)
    go_region_held3 (RdS sb mv w.heap.size cs false tb) (exact hS) (fail)
    go_wp2_with fail
    go_region_held3 (fun x => x.rangeAt w.heap.size 0 cs) (first | exact hS.2.1 | exact hr1)
      ((go_at_call 30; refine (put_any sb N mv D cs hcs kl hkey false t _ hL.drew.drew.c2 (hL.drew.drew.fz 2) hN hL.drew.drew.mp).mono ?_; rintro e w1 ⟨rfl, mv1, d2, hm1, hb1, ho1, hf1, hk1⟩
        have hL1 := hL.drew.drew.put d2 hm1 ho1 hf1 hk1
        have hr1 : w1.rangeAt w.heap.size 0 cs := range_of_block hL1.key
        clear ho1 hf1 hk1))
    go_wp2_with fail
    refine leaves_cons (f := 29) (args := #[.pointer (some ⟨sb, 0, none⟩)]) (by simp) (by simp [go_sem]) ?_
    refine (unlock_deferred Try.muLib ⟨sb, 0, none⟩ .returning _ hL1.c0 (hL1.fz 0)).mono ?_
    rintro e u' w'' ⟨rfl, rfl, rfl⟩
    exact ⟨_, results_none rfl _ _ _, rfl, by rw [HF.out]; exact hL1.free, (hB.drew.drew.trans hb1).setCell (Nat.le_refl _) _⟩
  · have hS := hL.drew.reads hkey hfo htb
    have HF : Hid (chg D kl t = D) := by show chg D kl t = D; unfold chg; rw [if_pos hfo]
    clear hfo htb
    go_enter_defers Try.func21, Try.ntmps21
    go_wp2_with (go_at_call 28; refine (lock_free Try.muLib ⟨sb, 0, none⟩ _ ?_ ?_).mono ?_; (simp [ga, hsb, c0]); (simp [gf, hsb, fz]); rintro e w' ⟨rfl, rfl⟩)
    go_region_held3 (RdS sb mv w.heap.size cs true tb) (exact hS) (fail)
    go_wp2_with fail
    refine leaves_cons (f := 29) (args := #[.pointer (some ⟨sb, 0, none⟩)]) (by simp) (by simp [go_sem]) ?_
    refine (unlock_deferred Try.muLib ⟨sb, 0, none⟩ .returning _ hL.drew.c0 (hL.drew.fz 0)).mono ?_
    rintro e u' w'' ⟨rfl, rfl, rfl⟩
    exact ⟨_, results_none rfl _ _ _, rfl, by rw [HF.out]; exact hL.drew.free.mono (by omega), hB.drew.setCell (Nat.le_refl _) _⟩

set_option maxHeartbeats 800000 in
set_option maxRecDepth 100000 in
theorem find_any (sb N : Nat) (D : DataW Unit) (cs : List Value) (hcs : cs.length = 32) (kl : Lit) (hkey : keyOf Try.prog 55 (.agg cs.toArray) = some kl) (w : World) (hN : N ≤ 1000) (hst : St w sb N D) :
    Calls Try.prog 22 #[.pointer (some ⟨sb, 0, none⟩), .agg cs.toArray] w fun e w' => e = .returned (.bool (!fo D kl)) ∧ St w' sb (N + 1) (fnd D kl) ∧ Below sb w w' := by
  obtain ⟨c0, ⟨mv, c2, hm⟩, fz⟩ := hst
  have hsb : sb < w.heap.size := World.block_lt_of_cell? w ⟨sb, 2, none⟩ c2
  have hu := Try.underlying55
  have hi : (Try.prog.info? 55).map (·.size) = some cs.length := by rw [size55, hcs]
  have ga := cell_alloc
  have gf := frozen_alloc
  have hfd := field60
  have hL := Lk.mk' (cs := cs) (ty := 55) c0 c2 hm fz
  have hB : Below sb w ((w.setCell ⟨sb, 0, none⟩ (.int .i32 1)).alloc (.cells cs.toArray 55)) := ((Below.refl sb w).setCell (Nat.le_refl _) _).alloc (by simp; omega) _
  obtain ⟨tb, htb⟩ : ∃ tb, tl D kl = tb := ⟨_, rfl⟩
  cases hfo : fo D kl
  · have hS := hL.drew.reads hkey hfo htb
    have HF : Hid (fnd D kl = D.put kl (dm true 0)) := by show fnd D kl = _; unfold fnd; rw [if_neg (by simp [hfo])]
    clear hfo htb
    go_enter_defers Try.func22, Try.ntmps22
    go_wp2_with (go_at_call 28; refine (lock_free Try.muLib ⟨sb, 0, none⟩ _ ?_ ?_).mono ?_; (simp [ga, hsb, c0]); (simp [gf, hsb, fz]); rintro e w' ⟨rfl, rfl⟩)
    go_region_held3 (RdS sb mv w.heap.size cs false tb) (exact hS) (fail)
    go_wp2_with fail
    go_region_held3 (fun x => x.rangeAt w.heap.size 0 cs) (first | exact hS.2.1 | exact hr1)
      ((go_at_call 30; refine (put_any sb N mv D cs hcs kl hkey true 0 _ hL.drew.drew.c2 (hL.drew.drew.fz 2) hN hL.drew.drew.mp).mono ?_; rintro e w1 ⟨rfl, mv1, d2, hm1, hb1, ho1, hf1, hk1⟩
        have hL1 := hL.drew.drew.put d2 hm1 ho1 hf1 hk1
        have hr1 : w1.rangeAt w.heap.size 0 cs := range_of_block hL1.key
        clear ho1 hf1 hk1))
    go_wp2_with fail
    refine leaves_cons (f := 29) (args := #[.pointer (some ⟨sb, 0, none⟩)]) (by simp) (by simp [go_sem]) ?_
    refine (unlock_deferred Try.muLib ⟨sb, 0, none⟩ .returning _ hL1.c0 (hL1.fz 0)).mono ?_
    rintro e u' w'' ⟨rfl, rfl, rfl⟩
    exact ⟨_, results_tmp rfl _ _ _, rfl, by rw [HF.out]; exact hL1.free, (hB.drew.drew.trans hb1).setCell (Nat.le_refl _) _⟩
  · have hS := hL.drew.reads hkey hfo htb
    have HF : Hid (fnd D kl = D) := by show fnd D kl = D; unfold fnd; rw [if_pos hfo]
    clear hfo htb
    go_enter_defers Try.func22, Try.ntmps22
    go_wp2_with (go_at_call 28; refine (lock_free Try.muLib ⟨sb, 0, none⟩ _ ?_ ?_).mono ?_; (simp [ga, hsb, c0]); (simp [gf, hsb, fz]); rintro e w' ⟨rfl, rfl⟩)
    go_region_held3 (RdS sb mv w.heap.size cs true tb) (exact hS) (fail)
    go_wp2_with fail
    refine leaves_cons (f := 29) (args := #[.pointer (some ⟨sb, 0, none⟩)]) (by simp) (by simp [go_sem]) ?_
    refine (unlock_deferred Try.muLib ⟨sb, 0, none⟩ .returning _ hL.drew.c0 (hL.drew.fz 0)).mono ?_
    rintro e u' w'' ⟨rfl, rfl, rfl⟩
    exact ⟨_, results_tmp rfl _ _ _, rfl, by rw [HF.out]; exact hL.drew.free.mono (by omega), hB.drew.setCell (Nat.le_refl _) _⟩
end Go.Proofs.Qxb6604673a
