/- THE STATEMENT 'Rows.FnDamageClearCaseTableSaid', out of the walks. -/
import Derived.Test.Qxb6604673aCaseA
import Derived.Test.Qxb6604673aCaseB
import Derived.Test.Qxb6604673aCaseC
import Derived.Test.Qxb6604673aScriptProof
namespace Go.Proofs.Qxb6604673a
open Go.ChangeShapes Go.WideShapes Go.ChangeAt Go.RowKit

theorem table_walk (cs os : List Value) (hcs : cs.length = 32) (hos : os.length = 32) (kl ol : Lit) (hkey : keyOf Try.prog 55 (.agg cs.toArray) = some kl) (hoth : keyOf Try.prog 55 (.agg os.toArray) = some ol) (cK fK cO fO : Bool) (tK tO s : Int) (W : World) :
    Calls Try.prog 3 #[.agg cs.toArray, .agg os.toArray, .bool cK, .bool fK, .int .u64 tK, .bool cO, .bool fO, .int .u64 tO, .int .u64 s] W fun e w' => e = .returned (.bool true) ∧ Below W.heap.size W w' := by
  cases fK
  · cases cK
    · exact case_ff cs os hcs hos kl ol hkey hoth cO fO tK tO s W
    · by_cases hs : s < tK
      · exact case_kept cs os hcs hos kl ol hkey hoth cO fO tK tO s hs W
      · exact case_gone cs os hcs hos kl ol hkey hoth cO fO tK tO s hs W
  · cases cK
    · exact case_ft cs os hcs hos kl ol hkey hoth cO fO tK tO s W
    · exact case_tt cs os hcs hos kl ol hkey hoth cO fO tK tO s W

set_option maxRecDepth 100000 in
theorem table_lifted (os : Os) (started : os.Started) (H : Type) (enc : TypeId × Value → H) :
    ReturnsInHanded {} Try.checked os 3 .any (Rows.fnDamageClearCaseTableSpec.pre6 enc Try.prog Try.f3 Rows.fnDamageClearCaseTableRow.domain false) (Rows.fnDamageClearCaseTableSpec.post enc Try.prog Try.f3 false true false false) := by
  refine returnsInHanded_of_change (C := Try.checked) own started (by kernel_rfl) Try.func3
    (ChangeSpec.witness6 (enc := enc) (C := Try.checked) false ⟨#[], #[.agg (Array.replicate 32 (.int .u8 0)), .agg (Array.replicate 32 (.int .u8 0)), .bool false, .bool false, .int .u64 0, .bool false, .bool false, .int .u64 0, .int .u64 0], []⟩ 8 (by kernel_rfl) (by kernel_rfl) (by kernel_rfl) (by kernel_rfl)) ?_
  intro W base args ds gs before hval0 hW hcnd _
  have hval : ∀ (j : Nat) t v, Try.f3.params[j]? = some t → args[j]? = some v → Value.okWide Try.prog W .any base t v := hval0
  have hW' := hW
  obtain ⟨p, q, hA0, hV, rfl, hfz, hnd⟩ := hW
  have hA : DataW.TrodAll enc Try.prog W 0 (fun _ => true) true Try.f3.params.toList args.toList ds p := hA0
  rw [Try.params3] at hA hval
  obtain ⟨v0, vs0, d0, ds0, p0, q0, hargs, rfl, rfl, h0, r0⟩ := trodAll_cons hA
  obtain ⟨v1, vs1, d1, ds1, p1, q1, rfl, rfl, rfl, h1, r1⟩ := trodAll_cons r0
  obtain ⟨v2, vs2, d2, ds2, p2, q2, rfl, rfl, rfl, h2, r2⟩ := trodAll_cons r1
  obtain ⟨v3, vs3, d3, ds3, p3, q3, rfl, rfl, rfl, h3, r3⟩ := trodAll_cons r2
  obtain ⟨v4, vs4, d4, ds4, p4, q4, rfl, rfl, rfl, h4, r4⟩ := trodAll_cons r3
  obtain ⟨v5, vs5, d5, ds5, p5, q5, rfl, rfl, rfl, h5, r5⟩ := trodAll_cons r4
  obtain ⟨v6, vs6, d6, ds6, p6, q6, rfl, rfl, rfl, h6, r6⟩ := trodAll_cons r5
  obtain ⟨v7, vs7, d7, ds7, p7, q7, rfl, rfl, rfl, h7, r7⟩ := trodAll_cons r6
  obtain ⟨v8, vs8, d8, ds8, p8, q8, rfl, rfl, rfl, h8, r8⟩ := trodAll_cons r7
  obtain ⟨rfl, rfl, rfl⟩ := trodAll_nil r8
  obtain rfl : args = #[v0, v1, v2, v3, v4, v5, v6, v7, v8] := by cases args; simp_all
  obtain ⟨rfl, rfl⟩ := trodVars_none hV
  have k0 := h0
  have lt0 : ∀ x ∈ p0, x.block < W.heap.size := by obtain ⟨m, hm⟩ := k0; exact DataW.trod_lt m _ _ _ hm
  obtain ⟨cs0, kl0, rfl, hcs0, hkey0⟩ := open_key (hval 0 22 v0 rfl rfl) h0
  have k1 := h1
  have lt1 : ∀ x ∈ p1, x.block < W.heap.size := by obtain ⟨m, hm⟩ := k1; exact DataW.trod_lt m _ _ _ hm
  obtain ⟨cs1, kl1, rfl, hcs1, hkey1⟩ := open_key (hval 1 22 v1 rfl rfl) h1
  obtain ⟨a2, rfl, rfl, rfl⟩ := open_bool Try.underlying4 (hval 2 4 v2 rfl rfl) h2
  obtain ⟨a3, rfl, rfl, rfl⟩ := open_bool Try.underlying4 (hval 3 4 v3 rfl rfl) h3
  obtain ⟨a4, rfl, rfl, rfl, w4⟩ := open_int Try.underlying23 (hval 4 23 v4 rfl rfl) h4
  obtain ⟨a5, rfl, rfl, rfl⟩ := open_bool Try.underlying4 (hval 5 4 v5 rfl rfl) h5
  obtain ⟨a6, rfl, rfl, rfl⟩ := open_bool Try.underlying4 (hval 6 4 v6 rfl rfl) h6
  obtain ⟨a7, rfl, rfl, rfl, w7⟩ := open_int Try.underlying23 (hval 7 23 v7 rfl rfl) h7
  obtain ⟨a8, rfl, rfl, rfl, w8⟩ := open_int Try.underlying23 (hval 8 23 v8 rfl rfl) h8
  clear hA0 hval0
  refine (table_walk cs0 cs1 hcs0 hcs1 kl0 kl1 hkey0 hkey1 a2 a3 a5 a6 a4 a7 a8 W).mono fun e W' ⟨he, bel⟩ => ?_
  subst he
  exact ⟨_, rfl, _, _, _, [], _, [], hW', trodAll_mk1 (shut_bool Try.underlying4 _), (trodAll_cons_mk (Below.trod laidOut (by kernel_rfl) (of_decide_eq_true (by kernel_rfl)) k0 bel lt0) (trodAll_cons_mk (Below.trod laidOut (by kernel_rfl) (of_decide_eq_true (by kernel_rfl)) k1 bel lt1) (trodAll_cons_mk (shut_bool Try.underlying4 _) (trodAll_cons_mk (shut_bool Try.underlying4 _) (trodAll_cons_mk (shut_int Try.underlying23 w4) (trodAll_cons_mk (shut_bool Try.underlying4 _) (trodAll_cons_mk (shut_bool Try.underlying4 _) (trodAll_cons_mk (shut_int Try.underlying23 w7) (trodAll_cons_mk (shut_int Try.underlying23 w8) trodAll_mk0))))))))), rfl, bel.frame _, fun h => by cases h⟩

theorem table_over : Rows.fnDamageClearCaseTableRow.holds Try.pinned (OpenSpec.ofChange Rows.fnDamageClearCaseTableSpec) :=
  OpenClaim.holds_of_wide 3 Try.f3 rfl rfl rfl rfl rfl rfl rfl ⟨rfl, rfl, rfl, rfl, rfl⟩ rfl rfl rfl rfl rfl (by kernel_rfl) Try.func3 (by kernel_rfl)
    (of_decide_eq_true (by kernel_rfl)) (by unfold Func.isWrapper; first | (rw [if_pos (by decide +kernel)]; kernel_rfl) | (rw [if_neg (by decide +kernel)]; exact ⟨rfl, rfl⟩))
    (fun os started H enc _ => table_lifted os started H enc)

/-- THE STATEMENT -/
theorem table_proved : Rows.FnDamageClearCaseTableSaid :=
  table_over
#print axioms table_proved
end Go.Proofs.Qxb6604673a
