/- The walk of FnDamageClearScript. -/
import Derived.Test.Qxb6604673aPlain
namespace Go.Proofs.Qxb6604673a
open Go.RowKit Go.Maps
open Go.MuLone

theorem Env.start (W : World) (cs : List Value) : Env W ((W.alloc (.cells cs.toArray 22)).alloc (.cells #[.int .i32 0, .int .u32 0, .map none] 53)) (W.heap.size + 1) 0 (.map []) cs cs W.heap.size := by
  have h := St.new (W.alloc (.cells cs.toArray 22))
  have e : (W.alloc (.cells cs.toArray 22)).heap.size = W.heap.size + 1 := by simp
  rw [e] at h
  have hk : ((W.alloc (.cells cs.toArray 22)).alloc (.cells #[.int .i32 0, .int .u32 0, .map none] 53)).heap[W.heap.size]? = some (.cells cs.toArray 22) := by
    rw [Below.heap_alloc _ _ _ (by simp)]
    exact heap_new _ _
  exact ⟨h, hk, hk, by omega, by omega, ((Below.refl _ _).alloc (Nat.le_refl _) _).alloc (by simp) _⟩

set_option maxHeartbeats 1600000 in
set_option maxRecDepth 100000 in
theorem script_walk (cs : List Value) (hcs : cs.length = 32) (kl : Lit) (hkey : keyOf Try.prog 55 (.agg cs.toArray) = some kl) (t1 t2 s : Int) (W : World) :
    Calls Try.prog 4 #[.agg cs.toArray, .int .u64 t1, .int .u64 t2, .int .u64 s] W fun e w' => e = .returned (.bool true) ∧ Below W.heap.size W w' := by
  have hi := info22 hcs
  obtain ⟨⟨i3, m3⟩, ⟨i4, m4⟩, f4, f5, h7, s7, ⟨h8, f8, l8⟩, h9, s9⟩ := script_law (law.key hkey) t1 t2 s _ _ _ _ _ _ _ _ rfl rfl rfl rfl rfl rfl rfl rfl
  have hE := Env.start W cs
  have i3 : Hid _ := i3
  have i4 : Hid _ := i4
  have f4 : Hid _ := f4
  have f5 : Hid _ := f5
  have h7 : Hid _ := h7
  have s7 : Hid _ := s7
  have h8 : Hid _ := h8
  have f8 : Hid _ := And.intro f8 l8
  have h9 : Hid _ := h9
  have s9 : Hid _ := s9
  by_cases hlt : s < t2
  · have hd : decide (s < t2) = true := by simpa using hlt
    rw [hd] at i3 i4
    have m3 : Hid _ := m3 hd
    have m4 : Hid _ := m4 hd
    clear hd
    go_enter Try.func4, Try.ntmps4
    go_wp2_with (first
      | (refine wpList_load_row rfl 22 _ rfl W.heap.size rfl 22 cs.toArray (0, 0) _ hE.key Try.underlying22 rfl hi ?_)
      | (go_at_call 7; refine (new_any _).mono ?_; rintro e w1 ⟨rfl, rfl⟩))
    refine (e_change hcs hkey t1 (by omega) hE).mono ?_
    rintro e w2 ⟨rfl, hE⟩
    go_wp2_with (refine wpList_load_row rfl 22 _ rfl W.heap.size rfl 22 cs.toArray (0, 0) _ hE.key Try.underlying22 rfl hi ?_)
    refine (e_change hcs hkey t2 (by omega) hE).mono ?_
    rintro e w3 ⟨rfl, hE⟩
    go_wp2_with (refine wpList_load_row rfl 22 _ rfl W.heap.size rfl 22 cs.toArray (0, 0) _ hE.key Try.underlying22 rfl hi ?_)
    refine (e_clear hcs hkey s hE).mono ?_
    rintro e w4 ⟨rfl, hE⟩
    go_wp2_with (refine wpList_load_row rfl 22 _ rfl W.heap.size rfl 22 cs.toArray (0, 0) _ hE.key Try.underlying22 rfl hi ?_)
    refine (e_mark hcs hkey hE i3.out (fun _ => m3.out)).mono ?_
    rintro e w5 ⟨rfl, hE⟩
    go_wp2_with (refine wpList_load_row rfl 22 _ rfl W.heap.size rfl 22 cs.toArray (0, 0) _ hE.key Try.underlying22 rfl hi ?_)
    refine (e_clear hcs hkey s hE).mono ?_
    rintro e w6 ⟨rfl, hE⟩
    go_wp2_with (refine wpList_load_row rfl 22 _ rfl W.heap.size rfl 22 cs.toArray (0, 0) _ hE.key Try.underlying22 rfl hi ?_)
    refine (e_mark hcs hkey hE i4.out (fun _ => m4.out)).mono ?_
    rintro e w7 ⟨rfl, hE⟩
    go_wp2_with (refine wpList_load_row rfl 22 _ rfl W.heap.size rfl 22 cs.toArray (0, 0) _ hE.key Try.underlying22 rfl hi ?_)
    refine (e_find hcs hkey (by omega) hE f4.out).mono ?_
    rintro e w8 ⟨rfl, hE⟩
    go_wp2_with (refine wpList_load_row rfl 22 _ rfl W.heap.size rfl 22 cs.toArray (0, 0) _ hE.key Try.underlying22 rfl hi ?_)
    refine (e_find hcs hkey (by omega) hE f5.out).mono ?_
    rintro e w9 ⟨rfl, hE⟩
    go_wp2_with (refine wpList_load_row rfl 22 _ rfl W.heap.size rfl 22 cs.toArray (0, 0) _ hE.key Try.underlying22 rfl hi ?_)
    refine (e_clear hcs hkey s hE).mono ?_
    rintro e w10 ⟨rfl, hE⟩
    go_wp2_with (refine wpList_load_row rfl 22 _ rfl W.heap.size rfl 22 cs.toArray (0, 0) _ hE.key Try.underlying22 rfl hi ?_)
    refine (e_mark (f := false) (t := 0) hcs hkey hE h7.out (fun h => by cases h)).mono ?_
    rintro e w11 ⟨rfl, hE⟩
    go_wp2_with (refine wpList_load_row rfl 22 _ rfl W.heap.size rfl 22 cs.toArray (0, 0) _ hE.key Try.underlying22 rfl hi ?_)
    refine (e_len hE s7.out).mono ?_
    rintro e w12 ⟨rfl, hE⟩
    go_wp2_with (refine wpList_load_row rfl 22 _ rfl W.heap.size rfl 22 cs.toArray (0, 0) _ hE.key Try.underlying22 rfl hi ?_)
    refine (e_change hcs hkey t1 (by omega) hE).mono ?_
    rintro e w13 ⟨rfl, hE⟩
    go_wp2_with (refine wpList_load_row rfl 22 _ rfl W.heap.size rfl 22 cs.toArray (0, 0) _ hE.key Try.underlying22 rfl hi ?_)
    refine (e_mark hcs hkey hE h8.out (fun _ => f8.out)).mono ?_
    rintro e w14 ⟨rfl, hE⟩
    go_wp2_with (refine wpList_load_row rfl 22 _ rfl W.heap.size rfl 22 cs.toArray (0, 0) _ hE.key Try.underlying22 rfl hi ?_)
    refine (e_clear hcs hkey t1 hE).mono ?_
    rintro e w15 ⟨rfl, hE⟩
    go_wp2_with (refine wpList_load_row rfl 22 _ rfl W.heap.size rfl 22 cs.toArray (0, 0) _ hE.key Try.underlying22 rfl hi ?_)
    refine (e_has hcs hkey hE h9.out).mono ?_
    rintro e w16 ⟨rfl, hE⟩
    go_wp2_with (refine wpList_load_row rfl 22 _ rfl W.heap.size rfl 22 cs.toArray (0, 0) _ hE.key Try.underlying22 rfl hi ?_)
    refine (e_len hE s9.out).mono ?_
    rintro e w17 ⟨rfl, hE⟩
    go_wp2_with (refine wpList_load_row rfl 22 _ rfl W.heap.size rfl 22 cs.toArray (0, 0) _ hE.key Try.underlying22 rfl hi ?_)
    go_ret
    exact ⟨rfl, hE.below⟩
  · have hd : decide (s < t2) = false := by simpa using hlt
    rw [hd] at i3 i4
    clear m3 m4
    go_enter Try.func4, Try.ntmps4
    go_wp2_with (first
      | (refine wpList_load_row rfl 22 _ rfl W.heap.size rfl 22 cs.toArray (0, 0) _ hE.key Try.underlying22 rfl hi ?_)
      | (go_at_call 7; refine (new_any _).mono ?_; rintro e w1 ⟨rfl, rfl⟩))
    refine (e_change hcs hkey t1 (by omega) hE).mono ?_
    rintro e w2 ⟨rfl, hE⟩
    go_wp2_with (refine wpList_load_row rfl 22 _ rfl W.heap.size rfl 22 cs.toArray (0, 0) _ hE.key Try.underlying22 rfl hi ?_)
    refine (e_change hcs hkey t2 (by omega) hE).mono ?_
    rintro e w3 ⟨rfl, hE⟩
    go_wp2_with (refine wpList_load_row rfl 22 _ rfl W.heap.size rfl 22 cs.toArray (0, 0) _ hE.key Try.underlying22 rfl hi ?_)
    refine (e_clear hcs hkey s hE).mono ?_
    rintro e w4 ⟨rfl, hE⟩
    go_wp2_with (refine wpList_load_row rfl 22 _ rfl W.heap.size rfl 22 cs.toArray (0, 0) _ hE.key Try.underlying22 rfl hi ?_)
    refine (e_mark (f := false) (t := 0) hcs hkey hE i3.out (fun h => by cases h)).mono ?_
    rintro e w5 ⟨rfl, hE⟩
    go_wp2_with (refine wpList_load_row rfl 22 _ rfl W.heap.size rfl 22 cs.toArray (0, 0) _ hE.key Try.underlying22 rfl hi ?_)
    refine (e_clear hcs hkey s hE).mono ?_
    rintro e w6 ⟨rfl, hE⟩
    go_wp2_with (refine wpList_load_row rfl 22 _ rfl W.heap.size rfl 22 cs.toArray (0, 0) _ hE.key Try.underlying22 rfl hi ?_)
    refine (e_mark (f := false) (t := 0) hcs hkey hE i4.out (fun h => by cases h)).mono ?_
    rintro e w7 ⟨rfl, hE⟩
    go_wp2_with (refine wpList_load_row rfl 22 _ rfl W.heap.size rfl 22 cs.toArray (0, 0) _ hE.key Try.underlying22 rfl hi ?_)
    refine (e_find hcs hkey (by omega) hE f4.out).mono ?_
    rintro e w8 ⟨rfl, hE⟩
    go_wp2_with (refine wpList_load_row rfl 22 _ rfl W.heap.size rfl 22 cs.toArray (0, 0) _ hE.key Try.underlying22 rfl hi ?_)
    refine (e_find hcs hkey (by omega) hE f5.out).mono ?_
    rintro e w9 ⟨rfl, hE⟩
    go_wp2_with (refine wpList_load_row rfl 22 _ rfl W.heap.size rfl 22 cs.toArray (0, 0) _ hE.key Try.underlying22 rfl hi ?_)
    refine (e_clear hcs hkey s hE).mono ?_
    rintro e w10 ⟨rfl, hE⟩
    go_wp2_with (refine wpList_load_row rfl 22 _ rfl W.heap.size rfl 22 cs.toArray (0, 0) _ hE.key Try.underlying22 rfl hi ?_)
    refine (e_mark (f := false) (t := 0) hcs hkey hE h7.out (fun h => by cases h)).mono ?_
    rintro e w11 ⟨rfl, hE⟩
    go_wp2_with (refine wpList_load_row rfl 22 _ rfl W.heap.size rfl 22 cs.toArray (0, 0) _ hE.key Try.underlying22 rfl hi ?_)
    refine (e_len hE s7.out).mono ?_
    rintro e w12 ⟨rfl, hE⟩
    go_wp2_with (refine wpList_load_row rfl 22 _ rfl W.heap.size rfl 22 cs.toArray (0, 0) _ hE.key Try.underlying22 rfl hi ?_)
    refine (e_change hcs hkey t1 (by omega) hE).mono ?_
    rintro e w13 ⟨rfl, hE⟩
    go_wp2_with (refine wpList_load_row rfl 22 _ rfl W.heap.size rfl 22 cs.toArray (0, 0) _ hE.key Try.underlying22 rfl hi ?_)
    refine (e_mark hcs hkey hE h8.out (fun _ => f8.out)).mono ?_
    rintro e w14 ⟨rfl, hE⟩
    go_wp2_with (refine wpList_load_row rfl 22 _ rfl W.heap.size rfl 22 cs.toArray (0, 0) _ hE.key Try.underlying22 rfl hi ?_)
    refine (e_clear hcs hkey t1 hE).mono ?_
    rintro e w15 ⟨rfl, hE⟩
    go_wp2_with (refine wpList_load_row rfl 22 _ rfl W.heap.size rfl 22 cs.toArray (0, 0) _ hE.key Try.underlying22 rfl hi ?_)
    refine (e_has hcs hkey hE h9.out).mono ?_
    rintro e w16 ⟨rfl, hE⟩
    go_wp2_with (refine wpList_load_row rfl 22 _ rfl W.heap.size rfl 22 cs.toArray (0, 0) _ hE.key Try.underlying22 rfl hi ?_)
    refine (e_len hE s9.out).mono ?_
    rintro e w17 ⟨rfl, hE⟩
    go_wp2_with (refine wpList_load_row rfl 22 _ rfl W.heap.size rfl 22 cs.toArray (0, 0) _ hE.key Try.underlying22 rfl hi ?_)
    go_ret
    exact ⟨rfl, hE.below⟩
end Go.Proofs.Qxb6604673a
