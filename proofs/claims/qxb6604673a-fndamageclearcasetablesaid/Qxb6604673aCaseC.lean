/- The walk of FnDamageClearCaseTable, the key not marked. -/
import Derived.Test.Qxb6604673aTwo
import Derived.Deep.RegionWith
namespace Go.Proofs.Qxb6604673a
open Go.RowKit Go.Maps
open Go.MuLone
set_option linter.unusedSimpArgs false
attribute [local simp] cnt chgM fndM clrM

set_option maxHeartbeats 8000000 in
set_option maxRecDepth 100000 in
theorem case_ff (cs os : List Value) (hcs : cs.length = 32) (hos : os.length = 32) (kl ol : Lit) (hkey : keyOf Try.prog 55 (.agg cs.toArray) = some kl) (hoth : keyOf Try.prog 55 (.agg os.toArray) = some ol) (cO fO : Bool) (tK tO s : Int)  (W : World) :
    Calls Try.prog 3 #[.agg cs.toArray, .agg os.toArray, .bool false, .bool false, .int .u64 tK, .bool cO, .bool fO, .int .u64 tO, .int .u64 s] W fun e w' => e = .returned (.bool true) ∧ Below W.heap.size W w' := by
  have hi := info22 hcs
  have hj := info22 hos
  have hE := Env2.start W cs os kl ol
  by_cases hne : ol = kl
  · have hq := run_neq22 hoth hkey (b := false) (by simp [hne])
    clear hne
    cases cO <;> cases fO
    all_goals
      go_enter Try.func3, Try.ntmps3
      go_wp2_with
    (first
        | (refine wpList_load_row rfl 22 _ rfl W.heap.size rfl 22 cs.toArray (0, 0) _ hE.key Try.underlying22 rfl hi ?_)
        | (refine wpList_load_row rfl 22 _ rfl (W.heap.size + 1) rfl 22 os.toArray (0, 0) _ hE.oth Try.underlying22 rfl hj ?_)
        | (refine load_guarded rfl 22 _ rfl W.heap.size rfl 22 cs.toArray (0, 0) _ hE.key Try.underlying22 rfl hi ?_)
        | (refine load_guarded rfl 22 _ rfl (W.heap.size + 1) rfl 22 os.toArray (0, 0) _ hE.oth Try.underlying22 rfl hj ?_)
        | (go_at_call 7; refine (new_any _).mono ?_; rintro e w1 ⟨rfl, rfl⟩)
        | (go_at_call_of 8 cs.toArray; refine (k_change hcs hkey tK (by omega) hE).mono ?_; rintro e w1 ⟨rfl, hE⟩)
        | (go_at_call_of 9 cs.toArray; refine (k_find hcs hkey (by omega) hE).mono ?_; rintro e w1 ⟨rfl, hE⟩)
        | (go_at_call_of 10 cs.toArray; refine (k_clear hcs hkey s hE).mono ?_; rintro e w1 ⟨rfl, hE⟩)
        | (go_at_call_of 11 cs.toArray; refine (k_mark hcs hkey (by simp [meets, clrM, fndM, chgM]) hE).mono ?_; rintro e w1 ⟨rfl, hE⟩)
        | (go_at_call 12; refine (n_len hE rfl).mono ?_; rintro e w1 ⟨rfl, hE⟩))
      go_ret
      exact ⟨rfl, hE.below⟩
  · have hq := run_neq22 hoth hkey (b := true) (by simp [hne])
    cases cO <;> cases fO
    all_goals
      go_enter Try.func3, Try.ntmps3
      go_wp2_with
    (first
        | (refine wpList_load_row rfl 22 _ rfl W.heap.size rfl 22 cs.toArray (0, 0) _ hE.key Try.underlying22 rfl hi ?_)
        | (refine wpList_load_row rfl 22 _ rfl (W.heap.size + 1) rfl 22 os.toArray (0, 0) _ hE.oth Try.underlying22 rfl hj ?_)
        | (refine load_guarded rfl 22 _ rfl W.heap.size rfl 22 cs.toArray (0, 0) _ hE.key Try.underlying22 rfl hi ?_)
        | (refine load_guarded rfl 22 _ rfl (W.heap.size + 1) rfl 22 os.toArray (0, 0) _ hE.oth Try.underlying22 rfl hj ?_)
        | (go_at_call 7; refine (new_any _).mono ?_; rintro e w1 ⟨rfl, rfl⟩)
        | (go_at_call_of 8 cs.toArray; refine (k_change hcs hkey tK (by omega) hE).mono ?_; rintro e w1 ⟨rfl, hE⟩)
        | (go_at_call_of 9 cs.toArray; refine (k_find hcs hkey (by omega) hE).mono ?_; rintro e w1 ⟨rfl, hE⟩)
        | (go_at_call_of 10 cs.toArray; refine (k_clear hcs hkey s hE).mono ?_; rintro e w1 ⟨rfl, hE⟩)
        | (go_at_call_of 11 cs.toArray; refine (k_mark hcs hkey (by simp [meets, clrM, fndM, chgM]) hE).mono ?_; rintro e w1 ⟨rfl, hE⟩)
        | (go_at_call_of 8 os.toArray; refine (o_change hne hos hoth tO (by omega) hE).mono ?_; rintro e w1 ⟨rfl, hE⟩)
        | (go_at_call_of 9 os.toArray; refine (o_find hne hos hoth (by omega) hE).mono ?_; rintro e w1 ⟨rfl, hE⟩)
        | (go_at_call_of 11 os.toArray; refine (o_mark hne hos hoth (by simp [meets, clrM, fndM, chgM]) hE).mono ?_; rintro e w1 ⟨rfl, hE⟩)
        | (go_at_call 12; refine (n_len hE rfl).mono ?_; rintro e w1 ⟨rfl, hE⟩))
      go_ret
      exact ⟨rfl, hE.below⟩
end Go.Proofs.Qxb6604673a
