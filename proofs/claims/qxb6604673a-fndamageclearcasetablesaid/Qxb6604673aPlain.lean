/- The plain law of the script, no walk: what each step makes of the marks of one key. And the state that a law's walk carries. -/
import Derived.Test.Qxb6604673aShims
namespace Go.Proofs.Qxb6604673a
open Go.RowKit Go.Maps
open Go.MuLone

theorem IsMap.chg {D : DataW Unit} (h : Tidy D) {k : Lit} (hk : WideAt.IsKeyLit k) (t : Int) : Tidy (chg D k t) := by
  unfold Qxb6604673a.chg
  split
  · exact h
  · exact h.put hk _
theorem tidy_fnd {D : DataW Unit} (h : Tidy D) {k : Lit} (hk : WideAt.IsKeyLit k) : Tidy (fnd D k) := by
  unfold fnd
  split
  · exact h
  · exact h.put hk _

theorem fo_nil (k : Lit) : fo (.map []) k = false := rfl
theorem has_nil (k : Lit) : Maps.has (.map [] : DataW Unit) k = false := rfl
theorem size_nil : Maps.size (.map [] : DataW Unit) = 0 := rfl

/-- The script's marks, step by step. -/
theorem script_law {k : Lit} (hk : WideAt.IsKeyLit k) (t1 t2 s : Int) (D2 D3 D4 D5 D6 D7 D8 D9 : DataW Unit) (e2 : D2 = chg (chg (.map []) k t1) k t2) (e3 : D3 = clr D2 k s) (e4 : D4 = clr D3 k s) (e5 : D5 = fnd D4 k) (e6 : D6 = fnd D5 k) (e7 : D7 = clr D6 k s) (e8 : D8 = chg D7 k t1) (e9 : D9 = clr D8 k t1) :
    (Maps.has D3 k = decide (s < t2) ∧ (decide (s < t2) = true → fo D3 k = false ∧ tl D3 k = t2)) ∧
    (Maps.has D4 k = decide (s < t2) ∧ (decide (s < t2) = true → fo D4 k = false ∧ tl D4 k = t2)) ∧ fo D4 k = false ∧ fo D5 k = true ∧
    Maps.has D7 k = false ∧ Maps.size D7 = 0 ∧ (Maps.has D8 k = true ∧ fo D8 k = false ∧ tl D8 k = t1) ∧ Maps.has D9 k = false ∧ Maps.size D9 = 0 := by
  have d1 : chg (.map []) k t1 = (DataW.map []).put k (dm false t1) := by unfold chg; rw [if_neg (by rw [fo_nil]; simp)]
  have T1 : Tidy ((DataW.map []).put k (dm false t1) : DataW Unit) := tidy_empty.put hk _
  have f1 : fo ((DataW.map []).put k (dm false t1)) k = false := fo_put_same isMap_empty hk _ _
  have d2 : D2 = ((DataW.map []).put k (dm false t1)).put k (dm false t2) := by rw [e2, d1]; unfold chg; rw [if_neg (by rw [f1]; simp)]
  have T2 : Tidy D2 := by rw [d2]; exact T1.put hk _
  have f2 : fo D2 k = false := by rw [d2]; exact fo_put_same T1.isMap hk _ _
  have l2 : tl D2 k = t2 := by rw [d2]; exact tl_put_same T1.isMap hk _ _
  have h2 : Maps.has D2 k = true := by rw [d2]; exact has_put_same T1.isMap hk _
  have s2 : Maps.size D2 = 1 := by
    rw [d2, size_put T1, has_put_same isMap_empty hk, if_pos rfl, size_put tidy_empty, has_nil, if_neg (by simp), size_nil]
  have st2 : stays D2 k s = decide (s < t2) := by unfold stays; rw [h2, f2, l2]; simp
  have key4 : fo D4 k = false ∧ Tidy D4 ∧ (Maps.has D3 k = decide (s < t2) ∧ (decide (s < t2) = true → fo D3 k = false ∧ tl D3 k = t2)) ∧ (Maps.has D4 k = decide (s < t2) ∧ (decide (s < t2) = true → fo D4 k = false ∧ tl D4 k = t2)) ∧ Maps.size D4 = if Maps.has D4 k then 1 else 0 := by
    by_cases hlt : s < t2
    · have d3 : D3 = D2 := by rw [e3]; unfold clr; rw [st2, if_pos (by simpa using hlt)]
      have d4 : D4 = D2 := by rw [e4, d3]; unfold clr; rw [st2, if_pos (by simpa using hlt)]
      rw [d3, d4, h2, f2, l2, s2]
      simp [hlt, T2]
    · have d3 : D3 = D2.del k := by rw [e3]; unfold clr; rw [st2, if_neg (by simpa using hlt)]
      have h3 : Maps.has D3 k = false := by rw [d3]; exact has_del_same
      have d4 : D4 = D3 := by rw [e4]; unfold clr stays; rw [h3, if_neg (by simp)]; exact del_of_not_has h3
      have s3 : Maps.size D3 = 0 := by
        have := size_del (k := k) T2
        rw [h2, if_pos rfl, s2] at this
        rw [d3]; omega
      refine ⟨by rw [d4, d3]; exact fo_del_same, by rw [d4, d3]; exact T2.del k, ⟨by rw [h3]; simp [hlt], by simp [hlt]⟩, ⟨by rw [d4, h3]; simp [hlt], by simp [hlt]⟩, by rw [d4, h3, s3]; simp⟩
  obtain ⟨f4, T4, m3, m4, s4⟩ := key4
  have d5 : D5 = D4.put k (dm true 0) := by rw [e5]; unfold fnd; rw [if_neg (by rw [f4]; simp)]
  have f5 : fo D5 k = true := by rw [d5]; exact fo_put_same T4.isMap hk _ _
  have h5 : Maps.has D5 k = true := by rw [d5]; exact has_put_same T4.isMap hk _
  have T5 : Tidy D5 := by rw [d5]; exact T4.put hk _
  have s5 : Maps.size D5 = 1 := by
    rw [d5, size_put T4, s4]
    cases Maps.has D4 k <;> simp
  have d6 : D6 = D5 := by rw [e6]; unfold fnd; rw [if_pos f5]
  have d7 : D7 = D5.del k := by rw [e7, d6]; unfold clr stays; rw [f5, if_neg (by simp)]
  have h7 : Maps.has D7 k = false := by rw [d7]; exact has_del_same
  have T7 : Tidy D7 := by rw [d7]; exact T5.del k
  have s7 : Maps.size D7 = 0 := by
    have := size_del (k := k) T5
    rw [h5, if_pos rfl, s5] at this
    rw [d7]; omega
  have f7 : fo D7 k = false := by rw [d7]; exact fo_del_same
  have d8 : D8 = D7.put k (dm false t1) := by rw [e8]; unfold chg; rw [if_neg (by rw [f7]; simp)]
  have h8 : Maps.has D8 k = true := by rw [d8]; exact has_put_same T7.isMap hk _
  have f8 : fo D8 k = false := by rw [d8]; exact fo_put_same T7.isMap hk _ _
  have l8 : tl D8 k = t1 := by rw [d8]; exact tl_put_same T7.isMap hk _ _
  have T8 : Tidy D8 := by rw [d8]; exact T7.put hk _
  have s8 : Maps.size D8 = 1 := by rw [d8, size_put T7, h7, s7]; simp
  have d9 : D9 = D8.del k := by rw [e9]; unfold clr stays; rw [l8, if_neg (by simp)]
  have h9 : Maps.has D9 k = false := by rw [d9]; exact has_del_same
  have s9 : Maps.size D9 = 0 := by
    have := size_del (k := k) T8
    rw [h8, if_pos rfl, s8] at this
    rw [d9]; omega
  exact ⟨m3, m4, f4, f5, h7, s7, ⟨h8, f8, l8⟩, h9, s9⟩

/-- What a law's walk carries: the set, the boxes of the two keys, and that nothing that was there has turned. -/
structure Env (W x : World) (sb N : Nat) (D : DataW Unit) (cs os : List Value) (h1 : Nat) : Prop where
  st : St x sb N D
  key : x.heap[W.heap.size]? = some (.cells cs.toArray 22)
  oth : x.heap[h1]? = some (.cells os.toArray 22)
  lo : W.heap.size < sb
  lo1 : h1 < sb
  below : Below W.heap.size W x

section
variable {W x x' : World} {sb N N' h1 : Nat} {D D' : DataW Unit} {cs os : List Value} {kl : Lit}
theorem Env.step (h : Env W x sb N D cs os h1) (hst : St x' sb N' D') (hb : Below sb x x') : Env W x' sb N' D' cs os h1 :=
  ⟨hst, (hb.block _ h.lo).trans h.key, (hb.block _ h.lo1).trans h.oth, h.lo, h.lo1, h.below.trans (hb.mono (Nat.le_of_lt h.lo))⟩
theorem Env.read (h : Env W x sb N D cs os h1) (hb : Below x.heap.size x x') : Env W x' sb N D cs os h1 := h.step (h.st.below hb) (hb.mono (Nat.le_of_lt h.st.lt))

theorem e_change {ks : List Value} (hcs : ks.length = 32) (hkey : keyOf Try.prog 55 (.agg ks.toArray) = some kl) (t : Int) (hN : N ≤ 1000) (h : Env W x sb N D cs os h1) :
    Calls Try.prog 8 #[.pointer (some ⟨sb, 0, none⟩), .agg ks.toArray, .int .u64 t] x fun e x' => e = .returned (.tuple #[]) ∧ Env W x' sb (N + 1) (chg D kl t) cs os h1 :=
  (zzchange sb N D ks hcs kl hkey t x hN h.st).mono fun _ _ ⟨he, hst, hb⟩ => ⟨he, h.step hst hb⟩
theorem e_clear {ks : List Value} (hcs : ks.length = 32) (hkey : keyOf Try.prog 55 (.agg ks.toArray) = some kl) (t : Int) (h : Env W x sb N D cs os h1) :
    Calls Try.prog 10 #[.pointer (some ⟨sb, 0, none⟩), .agg ks.toArray, .int .u64 t] x fun e x' => e = .returned (.tuple #[]) ∧ Env W x' sb N (clr D kl t) cs os h1 :=
  (zzclear sb N D ks hcs kl hkey t x h.st).mono fun _ _ ⟨he, hst, hb⟩ => ⟨he, h.step hst hb⟩
theorem e_find {ks : List Value} (hcs : ks.length = 32) (hkey : keyOf Try.prog 55 (.agg ks.toArray) = some kl) (hN : N ≤ 1000) (h : Env W x sb N D cs os h1) {f : Bool} (hf : fo D kl = f) :
    Calls Try.prog 9 #[.pointer (some ⟨sb, 0, none⟩), .agg ks.toArray] x fun e x' => e = .returned (.bool (!f)) ∧ Env W x' sb (N + 1) (fnd D kl) cs os h1 :=
  (zzfind sb N D ks hcs kl hkey x hN h.st).mono fun _ _ ⟨he, hst, hb⟩ => ⟨by rw [he, hf], h.step hst hb⟩
theorem e_has {ks : List Value} (hcs : ks.length = 32) (hkey : keyOf Try.prog 55 (.agg ks.toArray) = some kl) (h : Env W x sb N D cs os h1) {i : Bool} (hi : Maps.has D kl = i) :
    Calls Try.prog 13 #[.pointer (some ⟨sb, 0, none⟩), .agg ks.toArray] x fun e x' => e = .returned (.bool i) ∧ Env W x' sb N D cs os h1 :=
  (zzhas sb N D ks hcs kl hkey x h.st).mono fun _ _ ⟨he, hb⟩ => ⟨by rw [he, hi], h.read hb⟩
theorem e_mark {ks : List Value} (hcs : ks.length = 32) (hkey : keyOf Try.prog 55 (.agg ks.toArray) = some kl) (h : Env W x sb N D cs os h1) {i f : Bool} {t : Int} (hi : Maps.has D kl = i) (hm : i = true → fo D kl = f ∧ tl D kl = t) :
    Calls Try.prog 11 #[.pointer (some ⟨sb, 0, none⟩), .agg ks.toArray, .bool i, .bool f, .int .u64 t] x fun e x' => e = .returned (.bool true) ∧ Env W x' sb N D cs os h1 :=
  (markIs_yes sb N D ks hcs kl hkey i f t x h.st hi hm).mono fun _ _ ⟨he, hb⟩ => ⟨he, h.read hb⟩
theorem e_len (h : Env W x sb N D cs os h1) {n : Nat} (hn : Maps.size D = n) :
    Calls Try.prog 12 #[.pointer (some ⟨sb, 0, none⟩)] x fun e x' => e = .returned (.int .i64 n) ∧ Env W x' sb N D cs os h1 :=
  (len_any sb N D x h.st).mono fun _ _ ⟨he, hw⟩ => ⟨by rw [he, hn], by rw [hw]; exact h⟩
end
end Go.Proofs.Qxb6604673a
