/- The map of marks, no walk: how its keys and its elements read, what a look-up, a store, a deletion and the length come to. -/
import Derived.Test.Qxb6604673aRows
import Derived.Maps.OwnSet
import Derived.DeepKeys4
import Derived.WalkKit
import Derived.ProofKit
namespace Go.Proofs.Qxb6604673a
open Go.RowKit Go.Maps Go.WideShapes

theorem laidOut : laidOutB Try.prog = true := by kernel_rfl
theorem row55 : (55 : TypeId) < Try.prog.types.size := of_decide_eq_true (by kernel_rfl)
theorem at55 : Try.prog.keyTypeAt 2 55 = true := by kernel_rfl
theorem at22 : Try.prog.keyTypeAt 2 22 = true := by kernel_rfl
theorem law : Keyed Try.prog 55 := Keyed.of_law (deep_law_laid laidOut (m := 2) (by omega) row55 at55 (by rw [Try.underlying55]))
theorem deep22 : Try.prog.keyTypeAt (Try.prog.types.size + 1) 22 = true := by kernel_rfl
theorem deep55 : Try.prog.keyTypeAt (Try.prog.types.size + 1) 55 = true := by kernel_rfl
theorem cells22 : Try.prog.cellsOf 22 = 32 := by kernel_rfl
theorem cells55 : Try.prog.cellsOf 55 = 32 := by kernel_rfl
theorem size22 : (Try.prog.info? 22).map (·.size) = some 32 := by kernel_rfl
theorem size55 : (Try.prog.info? 55).map (·.size) = some 32 := by kernel_rfl
theorem zero60 (w : World) : (zeroValue 60).run Try.prog w = .ok (.agg #[.bool false, .int .u64 0]) w := by kernel_rfl

/-- A value reads as a key of type 22 just as it reads as a key of type 55. -/
theorem keyOf_two (v : Value) : keyOf Try.prog 22 v = keyOf Try.prog 55 v := by
  unfold keyOf
  rw [Try.underlying22, Try.underlying55]
  have e1 : Try.prog.keyType 22 = true := deep22
  have e2 : Try.prog.keyType 55 = true := deep55
  have e3 : v.formed Try.prog 22 = v.formed Try.prog 55 := by
    cases v <;> simp [Value.formed, Try.underlying22, Try.underlying55, cells22, cells55]
  have e4 : ∀ n cs, Try.prog.keyLits n 22 cs = Try.prog.keyLits n 55 cs := by
    intro n cs
    cases n with
    | zero => rfl
    | succ n => unfold Program.keyLits; rw [Try.underlying22, Try.underlying55, cells22, cells55]
  simp only [e1, e2, e3, e4]

/-- '==' on two keys. -/
theorem run_equal22 (w : World) {x y : Value} {lx ly : Lit} (hx : keyOf Try.prog 55 x = some lx) (hy : keyOf Try.prog 55 y = some ly) :
    ∃ r : Bool, (Op.equal 22 x y).run Try.prog w = .ok r w ∧ (r = true ↔ lx = ly) :=
  run_equal_deep w (m := 2) (by omega) at22 (by rw [Try.underlying22]) (by rw [keyOf_two]; exact hx) (by rw [keyOf_two]; exact hy)

/-! ### how a mark reads -/
abbrev dm (f : Bool) (t : Int) : DataW Unit := .agg [.lit (.bool f), .lit (.int .u64 t)]

def mark : Value → Option (DataW Unit × List MemPlace)
  | .agg cs => match cs.toList with
    | [.bool f, .int .u64 t] => some (dm f t, [])
    | _ => none
  | _ => none

theorem mark_mk (f : Bool) (t : Int) : mark (.agg #[.bool f, .int .u64 t]) = some (dm f t, []) := rfl

theorem mark_inv {v : Value} {z : DataW Unit × List MemPlace} (h : mark v = some z) : ∃ f t, v = .agg #[.bool f, .int .u64 t] ∧ z = (dm f t, []) := by
  unfold mark at h
  split at h
  · rename_i cs
    split at h
    · rename_i f t hcs
      refine ⟨f, t, ?_, by cases h; rfl⟩
      have : cs = (#[.bool f, .int .u64 t] : Array Value) := by
        apply Array.ext'
        simpa using hcs
      rw [this]
    · cases h
  · cases h

/-- The mark at a key: is it found damaged? -/
def fo (D : DataW Unit) (k : Lit) : Bool := match D.atKey k (dm false 0) with | .agg [.lit (.bool f), _] => f | _ => false
/-- .. the change that told of it. -/
def tl (D : DataW Unit) (k : Lit) : Int := match D.atKey k (dm false 0) with | .agg [_, .lit (.int _ t)] => t | _ => 0

theorem fo_of {D : DataW Unit} {k : Lit} {f : Bool} {t : Int} (h : D.atKey k (dm false 0) = dm f t) : fo D k = f := by unfold fo; rw [h]
theorem tl_of {D : DataW Unit} {k : Lit} {f : Bool} {t : Int} (h : D.atKey k (dm false 0) = dm f t) : tl D k = t := by unfold tl; rw [h]

section
variable {D : DataW Unit} {k k' : Lit}
theorem fo_put_same (hD : IsMap D) (hk : WideAt.IsKeyLit k) (f : Bool) (t : Int) : fo (D.put k (dm f t)) k = f := fo_of (atKey_put_same hD hk _ _) (t := t)
theorem tl_put_same (hD : IsMap D) (hk : WideAt.IsKeyLit k) (f : Bool) (t : Int) : tl (D.put k (dm f t)) k = t := tl_of (atKey_put_same hD hk _ _) (f := f)
theorem fo_put_other (hne : k' ≠ k) (d : DataW Unit) : fo (D.put k d) k' = fo D k' := by unfold fo; rw [atKey_put_other hne]
theorem tl_put_other (hne : k' ≠ k) (d : DataW Unit) : tl (D.put k d) k' = tl D k' := by unfold tl; rw [atKey_put_other hne]
theorem fo_del_same : fo (D.del k) k = false := fo_of (atKey_del_same _) (t := 0)
theorem tl_del_same : tl (D.del k) k = 0 := tl_of (atKey_del_same _) (f := false)
theorem fo_del_other (hne : k' ≠ k) : fo (D.del k) k' = fo D k' := by unfold fo; rw [atKey_del_other hne]
theorem tl_del_other (hne : k' ≠ k) : tl (D.del k) k' = tl D k' := by unfold tl; rw [atKey_del_other hne]
end

/-! ### the map in the set -/
/-- The value 'mv' of the field: nil and empty, or a map's block behind 'sb' that reads as D, of at most N entries. -/
def Mp (w : World) (sb : Nat) (mv : Value) (N : Nat) (D : DataW Unit) : Prop :=
  (mv = .map none ∧ D = .map []) ∨ ∃ bm, mv = .map (some bm) ∧ sb < bm ∧ w.ownsMap Try.prog 55 mark bm N D

section
variable {w : World} {sb N : Nat} {mv : Value} {D : DataW Unit}

theorem Mp.tidy (h : Mp w sb mv N D) : Tidy D := by
  rcases h with ⟨_, rfl⟩ | ⟨bm, _, _, ho⟩
  · exact tidy_empty
  · exact ho.tidy law

theorem Mp.drew (h : Mp w sb mv N D) : Mp w.drew sb mv N D := h

theorem Mp.mono (h : Mp w sb mv N D) {N' : Nat} (hn : N ≤ N') : Mp w sb mv N' D := by
  rcases h with h | ⟨bm, h1, h2, ho⟩
  · exact Or.inl h
  · exact Or.inr ⟨bm, h1, h2, ho.mono hn⟩

theorem Mp.alloc (h : Mp w sb mv N D) (o : Obj) : Mp (w.alloc o) sb mv N D := by
  rcases h with h | ⟨bm, h1, h2, ho⟩
  · exact Or.inl h
  · exact Or.inr ⟨bm, h1, h2, ho.alloc o⟩

/-- A store into the set's own block. -/
theorem Mp.setCell (h : Mp w sb mv N D) (o : Nat) (v : Value) : Mp (w.setCell ⟨sb, o, none⟩ v) sb mv N D := by
  rcases h with h | ⟨bm, h1, h2, ho⟩
  · exact Or.inl h
  · exact Or.inr ⟨bm, h1, h2, ho.setCell (by show bm ≠ sb; omega) v⟩

/-- Whatever leaves the blocks that were there as they were. -/
theorem Mp.below {w' : World} (h : Mp w sb mv N D) (hb : Below w.heap.size w w') : Mp w' sb mv N D := by
  rcases h with h | ⟨bm, h1, h2, ho⟩
  · exact Or.inl h
  · have hlt := ho.lt
    obtain ⟨es, clock, hm, r⟩ := ho
    exact Or.inr ⟨bm, h1, h2, es, clock, (hb.block bm hlt).trans hm, r⟩

theorem Mp.look {key : Value} {kl : Lit} (h : Mp w sb mv N D) (hkey : keyOf Try.prog 55 key = some kl) :
    (Instr.lookup 49 mv key false).run Try.prog w = .ok (.agg #[.bool (fo D kl), .int .u64 (tl D kl)]) w := by
  rcases h with ⟨rfl, rfl⟩ | ⟨bm, rfl, _, ho⟩
  · rw [look_nil false law Try.underlying49 (zero60 w) hkey]
    rfl
  · obtain ⟨v, ps, hrun, hv⟩ := ho.lookup law Try.underlying49 (zero60 w) (mark_mk false 0) hkey
    obtain ⟨f, t, rfl, hz⟩ := mark_inv hv
    have hat : D.atKey kl (dm false 0) = dm f t := congrArg Prod.fst hz
    rw [hrun, fo_of hat, tl_of hat]

theorem Mp.look_ok {key : Value} {kl : Lit} (h : Mp w sb mv N D) (hkey : keyOf Try.prog 55 key = some kl) :
    (Instr.lookup 49 mv key true).run Try.prog w = .ok (.tuple #[.agg #[.bool (fo D kl), .int .u64 (tl D kl)], .bool (Maps.has D kl)]) w := by
  rcases h with ⟨rfl, rfl⟩ | ⟨bm, rfl, _, ho⟩
  · rw [look_nil true law Try.underlying49 (zero60 w) hkey]
    rfl
  · obtain ⟨v, ps, hrun, hv⟩ := ho.look_ok law Try.underlying49 (zero60 w) (mark_mk false 0) hkey
    obtain ⟨f, t, rfl, hz⟩ := mark_inv hv
    have hat : D.atKey kl (dm false 0) = dm f t := congrArg Prod.fst hz
    rw [hrun, fo_of hat, tl_of hat]

theorem Mp.len (h : Mp w sb mv N D) (ty : TypeId) : (Builtin.len_ #[49] ty #[mv]).run Try.prog w = .ok (.int .i64 (Maps.size D)) w := by
  rcases h with ⟨rfl, rfl⟩ | ⟨bm, rfl, _, ho⟩
  · rw [len_nil Try.underlying49 ty]
    rfl
  · exact ho.len Try.underlying49 ty

/-- What a deletion and a store turn: the map's block alone. -/
theorem Mp.drop {key : Value} {kl : Lit} (h : Mp w sb mv N D) (hkey : keyOf Try.prog 55 key = some kl) (ty : TypeId) :
    ∃ w', (Builtin.delete_ #[49, 55] ty #[mv, key]).run Try.prog w = .ok (.tuple #[]) w' ∧ Mp w' sb mv N (D.del kl) ∧ Below (sb + 1) w w' ∧ (∀ a, w'.frozen? a = w.frozen? a) ∧ (∀ b, b < w.heap.size → mv ≠ .map (some b) → w'.heap[b]? = w.heap[b]?) := by
  rcases h with ⟨rfl, rfl⟩ | ⟨bm, rfl, hlt, ho⟩
  · exact ⟨w, drop_nil law Try.underlying49 hkey ty, Or.inl ⟨rfl, by rw [del_of_not_has]; rfl⟩, Below.refl _ _, fun _ => rfl, fun _ _ _ => rfl⟩
  · obtain ⟨w', hrun, ho', ht⟩ := ho.drop law Try.underlying49 hkey ty
    exact ⟨w', hrun, Or.inr ⟨bm, rfl, hlt, ho'⟩, (Below.refl _ _).grown ht.grown (by have := ho.lt; omega) (fun k hk => by cases hk; omega), ht.frozen, fun b h1 h2 => ht.grown.block b h1 (by intro e; cases e; exact h2 rfl)⟩

theorem owns_put {bm : Nat} {key : Value} {kl : Lit} (h : w.ownsMap Try.prog 55 mark bm N D) (hlt : sb < bm) (hN : N ≤ 1000) (hkey : keyOf Try.prog 55 key = some kl) (f : Bool) (t : Int) :
    ∃ w', (Instr.mapUpdate 49 (.map (some bm)) key (.agg #[.bool f, .int .u64 t])).run Try.prog w = .ok () w' ∧ Mp w' sb (.map (some bm)) (N + 1) (D.put kl (dm f t)) ∧ w.grownBy w' (some bm) ∧ (∀ a, w'.frozen? a = w.frozen? a) := by
  obtain ⟨w', hrun, ho', ht⟩ := h.store law Try.underlying49 (by unfold maxLen; omega) hkey (mark_mk f t)
  exact ⟨w', hrun, Or.inr ⟨bm, rfl, hlt, ho'⟩, ht.grown, ht.frozen⟩
end
end Go.Proofs.Qxb6604673a
