/- The marks of one key, or of two keys, told as what stands at each: the contracts in that form. -/
import Derived.Test.Qxb6604673aPlain
namespace Go.Proofs.Qxb6604673a
open Go.RowKit Go.Maps
open Go.MuLone

abbrev Mk := Option (Bool × Int)

/-- What stands at a key. -/
def at_ (D : DataW Unit) (k : Lit) (m : Mk) : Prop :=
  match m with
  | some (f, t) => Maps.has D k = true ∧ fo D k = f ∧ tl D k = t
  | none => Maps.has D k = false

def chgM : Mk → Int → Mk
  | some (true, u), _ => some (true, u)
  | _, t => some (false, t)
def fndM : Mk → Mk
  | some (true, u) => some (true, u)
  | _ => some (true, 0)
def clrM : Mk → Int → Mk
  | some (false, t), s => if s < t then some (false, t) else none
  | _, _ => none
def isF : Mk → Bool
  | some (true, _) => true
  | _ => false
def cnt : Mk → Nat
  | some _ => 1
  | none => 0

theorem fo_of_not_has {D : DataW Unit} {k : Lit} (h : Maps.has D k = false) : fo D k = false := fo_of (atKey_of_not_has h _) (t := 0)

section
variable {D : DataW Unit} {k o : Lit} {m : Mk}

theorem at_fo (h : at_ D k m) : fo D k = isF m := by
  match m, h with
  | some (true, _), h => exact h.2.1
  | some (false, _), h => exact h.2.1
  | none, h => exact fo_of_not_has h

theorem at_put_same (hD : IsMap D) (hk : WideAt.IsKeyLit k) (f : Bool) (t : Int) : at_ (D.put k (dm f t)) k (some (f, t)) := ⟨has_put_same hD hk _, fo_put_same hD hk _ _, tl_put_same hD hk _ _⟩

theorem at_put_other (hne : o ≠ k) (d : DataW Unit) (h : at_ D o m) : at_ (D.put k d) o m := by
  match m, h with
  | some (f, t), h => exact ⟨(has_put_other hne d).trans h.1, (fo_put_other hne d).trans h.2.1, (tl_put_other hne d).trans h.2.2⟩
  | none, h => exact (has_put_other hne d).trans h

theorem at_del_other (hne : o ≠ k) (h : at_ D o m) : at_ (D.del k) o m := by
  match m, h with
  | some (f, t), h => exact ⟨(has_del_other hne).trans h.1, (fo_del_other hne).trans h.2.1, (tl_del_other hne).trans h.2.2⟩
  | none, h => exact (has_del_other hne).trans h

theorem size_put_at (T : Tidy D) (h : at_ D k m) (d : DataW Unit) : Maps.size (D.put k d) + cnt m = Maps.size D + 1 := by
  rw [size_put T]
  match m, h with
  | some (f, t), h => rw [h.1]; simp [cnt]
  | none, h => rw [show Maps.has D k = false from h]; simp [cnt]

theorem size_del_at (T : Tidy D) (h : at_ D k m) : Maps.size (D.del k) + cnt m = Maps.size D := by
  have := size_del (k := k) T
  match m, h with
  | some (f, t), h => rw [h.1] at this; simpa [cnt] using this
  | none, h => rw [show Maps.has D k = false from h] at this; simpa [cnt] using this

/-- Whatever one step makes of the marks: at the key k from m to m'; elsewhere nothing; the count goes along. -/
structure Turn (D D' : DataW Unit) (k : Lit) (m m' : Mk) : Prop where
  tidy : Tidy D'
  here : at_ D' k m'
  else_ : ∀ o n, o ≠ k → at_ D o n → at_ D' o n
  size : Maps.size D' + cnt m = Maps.size D + cnt m'

theorem Turn.same (T : Tidy D) (h : at_ D k m) : Turn D D k m m := ⟨T, h, fun _ _ _ h => h, rfl⟩
theorem Turn.put (T : Tidy D) (hk : WideAt.IsKeyLit k) (h : at_ D k m) (f : Bool) (t : Int) : Turn D (D.put k (dm f t)) k m (some (f, t)) :=
  ⟨T.put hk _, at_put_same T.isMap hk f t, fun _ _ hne h => at_put_other hne _ h, size_put_at T h _⟩
theorem Turn.del (T : Tidy D) (h : at_ D k m) : Turn D (D.del k) k m none :=
  ⟨T.del k, has_del_same, fun _ _ hne h => at_del_other hne h, by rw [size_del_at T h]; rfl⟩

theorem turn_chg (T : Tidy D) (hk : WideAt.IsKeyLit k) (h : at_ D k m) (t : Int) : Turn D (chg D k t) k m (chgM m t) := by
  unfold chg
  rw [at_fo h]
  match m, h with
  | some (true, u), h => exact Turn.same T h
  | some (false, u), h => exact Turn.put T hk h false t
  | none, h => exact Turn.put T hk h false t
theorem turn_fnd (T : Tidy D) (hk : WideAt.IsKeyLit k) (h : at_ D k m) : Turn D (fnd D k) k m (fndM m) := by
  unfold fnd
  rw [at_fo h]
  match m, h with
  | some (true, u), h => exact Turn.same T h
  | some (false, u), h => exact Turn.put T hk h true 0
  | none, h => exact Turn.put T hk h true 0
theorem turn_clr (T : Tidy D) (h : at_ D k m) (s : Int) : Turn D (clr D k s) k m (clrM m s) := by
  unfold clr stays
  rw [at_fo h]
  match m, h with
  | some (true, u), h => rw [if_neg (by simp [isF])]; exact Turn.del T h
  | some (false, u), h =>
    rw [h.1, h.2.2]
    by_cases hlt : s < u
    · rw [if_pos (by simp [isF, hlt])]; simp only [clrM, if_pos hlt]; exact Turn.same T h
    · rw [if_neg (by simp [hlt])]; simp only [clrM, if_neg hlt]; exact Turn.del T h
  | none, h => rw [show Maps.has D k = false from h, if_neg (by simp)]; exact Turn.del T h
end

/-- The law's state: at key k the mark m; at key o (if it is another) the mark n; nothing else. -/
structure Env2 (W x : World) (sb N : Nat) (k o : Lit) (m n : Mk) (cs os : List Value) (h1 : Nat) : Prop where
  ex : ∃ D, Env W x sb N D cs os h1 ∧ Tidy D ∧ at_ D k m ∧ (o ≠ k → at_ D o n) ∧ (o = k → n = none) ∧ Maps.size D = cnt m + cnt n

section
variable {W x : World} {sb N h1 : Nat} {k o : Lit} {m n : Mk} {cs os : List Value}

theorem Env2.key (h : Env2 W x sb N k o m n cs os h1) : x.heap[W.heap.size]? = some (.cells cs.toArray 22) := by obtain ⟨D, hE, _⟩ := h.ex; exact hE.key
theorem Env2.oth (h : Env2 W x sb N k o m n cs os h1) : x.heap[h1]? = some (.cells os.toArray 22) := by obtain ⟨D, hE, _⟩ := h.ex; exact hE.oth
theorem Env2.below (h : Env2 W x sb N k o m n cs os h1) : Below W.heap.size W x := by obtain ⟨D, hE, _⟩ := h.ex; exact hE.below

theorem Env2.turnK {x' : World} {N' : Nat} {D D' : DataW Unit} {m' : Mk} (hE : Env W x' sb N' D' cs os h1) (ho : o ≠ k → at_ D o n) (hn : o = k → n = none) (hs : Maps.size D = cnt m + cnt n) (t : Turn D D' k m m') : Env2 W x' sb N' k o m' n cs os h1 :=
  ⟨D', hE, t.tidy, t.here, fun hne => t.else_ _ _ hne (ho hne), hn, by have := t.size; omega⟩
theorem Env2.turnO {x' : World} {N' : Nat} {D D' : DataW Unit} {n' : Mk} (hne : o ≠ k) (hE : Env W x' sb N' D' cs os h1) (hk : at_ D k m) (hs : Maps.size D = cnt m + cnt n) (t : Turn D D' o n n') : Env2 W x' sb N' k o m n' cs os h1 :=
  ⟨D', hE, t.tidy, t.else_ _ _ (Ne.symm hne) hk, fun _ => t.here, fun e => absurd e hne, by have := t.size; omega⟩

variable {ks : List Value}
theorem k_change (hcs : ks.length = 32) (hkey : keyOf Try.prog 55 (.agg ks.toArray) = some k) (t : Int) (hN : N ≤ 1000) (h : Env2 W x sb N k o m n cs os h1) :
    Calls Try.prog 8 #[.pointer (some ⟨sb, 0, none⟩), .agg ks.toArray, .int .u64 t] x fun e x' => e = .returned (.tuple #[]) ∧ Env2 W x' sb (N + 1) k o (chgM m t) n cs os h1 := by
  obtain ⟨D, hE, T, hk, ho, hn, hs⟩ := h.ex
  exact (e_change hcs hkey t hN hE).mono fun _ _ ⟨he, hE'⟩ => ⟨he, Env2.turnK hE' ho hn hs (turn_chg T (law.key hkey) hk t)⟩
theorem k_find (hcs : ks.length = 32) (hkey : keyOf Try.prog 55 (.agg ks.toArray) = some k) (hN : N ≤ 1000) (h : Env2 W x sb N k o m n cs os h1) :
    Calls Try.prog 9 #[.pointer (some ⟨sb, 0, none⟩), .agg ks.toArray] x fun e x' => e = .returned (.bool (!isF m)) ∧ Env2 W x' sb (N + 1) k o (fndM m) n cs os h1 := by
  obtain ⟨D, hE, T, hk, ho, hn, hs⟩ := h.ex
  exact (e_find hcs hkey hN hE (at_fo hk)).mono fun _ _ ⟨he, hE'⟩ => ⟨he, Env2.turnK hE' ho hn hs (turn_fnd T (law.key hkey) hk)⟩
theorem k_clear (hcs : ks.length = 32) (hkey : keyOf Try.prog 55 (.agg ks.toArray) = some k) (t : Int) (h : Env2 W x sb N k o m n cs os h1) :
    Calls Try.prog 10 #[.pointer (some ⟨sb, 0, none⟩), .agg ks.toArray, .int .u64 t] x fun e x' => e = .returned (.tuple #[]) ∧ Env2 W x' sb N k o (clrM m t) n cs os h1 := by
  obtain ⟨D, hE, T, hk, ho, hn, hs⟩ := h.ex
  exact (e_clear hcs hkey t hE).mono fun _ _ ⟨he, hE'⟩ => ⟨he, Env2.turnK hE' ho hn hs (turn_clr T hk t)⟩
theorem o_change (hne : o ≠ k) (hcs : ks.length = 32) (hkey : keyOf Try.prog 55 (.agg ks.toArray) = some o) (t : Int) (hN : N ≤ 1000) (h : Env2 W x sb N k o m n cs os h1) :
    Calls Try.prog 8 #[.pointer (some ⟨sb, 0, none⟩), .agg ks.toArray, .int .u64 t] x fun e x' => e = .returned (.tuple #[]) ∧ Env2 W x' sb (N + 1) k o m (chgM n t) cs os h1 := by
  obtain ⟨D, hE, T, hk, ho, hn, hs⟩ := h.ex
  exact (e_change hcs hkey t hN hE).mono fun _ _ ⟨he, hE'⟩ => ⟨he, Env2.turnO hne hE' hk hs (turn_chg T (law.key hkey) (ho hne) t)⟩
theorem o_find (hne : o ≠ k) (hcs : ks.length = 32) (hkey : keyOf Try.prog 55 (.agg ks.toArray) = some o) (hN : N ≤ 1000) (h : Env2 W x sb N k o m n cs os h1) :
    Calls Try.prog 9 #[.pointer (some ⟨sb, 0, none⟩), .agg ks.toArray] x fun e x' => e = .returned (.bool (!isF n)) ∧ Env2 W x' sb (N + 1) k o m (fndM n) cs os h1 := by
  obtain ⟨D, hE, T, hk, ho, hn, hs⟩ := h.ex
  exact (e_find hcs hkey hN hE (at_fo (ho hne))).mono fun _ _ ⟨he, hE'⟩ => ⟨he, Env2.turnO hne hE' hk hs (turn_fnd T (law.key hkey) (ho hne))⟩

/-- 'markIs' at what stands there. -/
def meets (m : Mk) (i f : Bool) (t : Int) : Prop := m.isSome = i ∧ (i = true → m = some (f, t))
theorem at_has {D : DataW Unit} {k : Lit} {m : Mk} (h : at_ D k m) : Maps.has D k = m.isSome := by
  match m, h with
  | some (f, t), h => exact h.1
  | none, h => exact h
theorem k_mark (hcs : ks.length = 32) (hkey : keyOf Try.prog 55 (.agg ks.toArray) = some k) {i f : Bool} {t : Int} (hm : meets m i f t) (h : Env2 W x sb N k o m n cs os h1) :
    Calls Try.prog 11 #[.pointer (some ⟨sb, 0, none⟩), .agg ks.toArray, .bool i, .bool f, .int .u64 t] x fun e x' => e = .returned (.bool true) ∧ Env2 W x' sb N k o m n cs os h1 := by
  obtain ⟨D, hE, T, hk, ho, hn, hs⟩ := h.ex
  exact (e_mark hcs hkey hE ((at_has hk).trans hm.1) (fun hi => by rw [hm.2 hi] at hk; exact hk.2)).mono fun _ _ ⟨he, hE'⟩ => ⟨he, D, hE', T, hk, ho, hn, hs⟩
theorem o_mark (hne : o ≠ k) (hcs : ks.length = 32) (hkey : keyOf Try.prog 55 (.agg ks.toArray) = some o) {i f : Bool} {t : Int} (hm : meets n i f t) (h : Env2 W x sb N k o m n cs os h1) :
    Calls Try.prog 11 #[.pointer (some ⟨sb, 0, none⟩), .agg ks.toArray, .bool i, .bool f, .int .u64 t] x fun e x' => e = .returned (.bool true) ∧ Env2 W x' sb N k o m n cs os h1 := by
  obtain ⟨D, hE, T, hk, ho, hn, hs⟩ := h.ex
  exact (e_mark hcs hkey hE ((at_has (ho hne)).trans hm.1) (fun hi => by have := ho hne; rw [hm.2 hi] at this; exact this.2)).mono fun _ _ ⟨he, hE'⟩ => ⟨he, D, hE', T, hk, ho, hn, hs⟩
theorem n_len (h : Env2 W x sb N k o m n cs os h1) {c : Int} (hc : ((cnt m + cnt n : Nat) : Int) = c) :
    Calls Try.prog 12 #[.pointer (some ⟨sb, 0, none⟩)] x fun e x' => e = .returned (.int .i64 c) ∧ Env2 W x' sb N k o m n cs os h1 := by
  obtain ⟨D, hE, T, hk, ho, hn, hs⟩ := h.ex
  exact (e_len hE hs).mono fun _ _ ⟨he, hE'⟩ => ⟨by rw [he, hc], D, hE', T, hk, ho, hn, hs⟩
end

/-- The start: two keys boxed, an empty set made. -/
theorem Env2.start (W : World) (cs os : List Value) (k o : Lit) : Env2 W (((W.alloc (.cells cs.toArray 22)).alloc (.cells os.toArray 22)).alloc (.cells #[.int .i32 0, .int .u32 0, .map none] 53)) (W.heap.size + 1 + 1) 0 k o none none cs os (W.heap.size + 1) := by
  have h := St.new ((W.alloc (.cells cs.toArray 22)).alloc (.cells os.toArray 22))
  have e : ((W.alloc (.cells cs.toArray 22)).alloc (.cells os.toArray 22)).heap.size = W.heap.size + 1 + 1 := by simp
  rw [e] at h
  refine ⟨.map [], ⟨h, ?_, ?_, by omega, by omega, (((Below.refl _ _).alloc (Nat.le_refl _) _).alloc (by simp) _).alloc (by simp; omega) _⟩, tidy_empty, rfl, fun _ => rfl, fun _ => rfl, rfl⟩
  · rw [Below.heap_alloc _ _ _ (by simp; omega), Below.heap_alloc _ _ _ (by simp)]
    exact heap_new _ _
  · rw [Below.heap_alloc _ _ _ (by simp)]
    have := heap_new (W.alloc (.cells cs.toArray 22)) (.cells os.toArray 22)
    simpa using this

/-- 'other != key'. -/
theorem run_neq22 {x y : Array Value} {lx ly : Lit} (hx : keyOf Try.prog 55 (.agg x) = some lx) (hy : keyOf Try.prog 55 (.agg y) = some ly) {b : Bool} (hb : b = true ↔ lx ≠ ly) (w : World) :
    (binOp .neq 22 (.agg x) (.agg y)).run Try.prog w = .ok (.bool b) w := by
  obtain ⟨r, hr, hrl⟩ := run_equal22 w hx hy
  have : b = !r := by
    cases b <;> cases r <;> simp_all
  subst this
  simp [binOp, hr]
end Go.Proofs.Qxb6604673a
