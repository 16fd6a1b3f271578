/- covers, Covers, ZZnewSignature. -/
import Derived.Test.Qxb6604744aGet
namespace Go.Proofs.Qxb6604744a
open Go.RowKit
set_option linter.unusedVariables false

/-- The signature at block g. -/
def Sig (w : World) (g : Nat) (its : List (ByteArray × List ByteArray)) : Prop := ∃ v, w.cell? ⟨g, 1, none⟩ = some v ∧ Items w v its

set_option maxHeartbeats 400000 in
theorem covers12_any (g : Nat) (its : List (ByteArray × List ByteArray)) (name : ByteArray) (w : World) (h : Sig w g its) :
    Calls Try.prog 12 #[.pointer (some ⟨g, 0, none⟩), .string name, .bool false] w fun e w' => Yes (covers name its) w e w' := by
  have hmf : ∀ (fn : Fn) (first cap : Array Value) (w : World), (Instr.makeFunc fn first cap).run Try.prog w = .ok (.func fn first cap) w := fun _ _ _ _ => rfl
  obtain ⟨v, hc, hI⟩ := h
  have hgl : g < w.heap.size := World.block_lt_of_cell? w _ hc
  go_enter Try.func12, Try.ntmps12
  go_wp2_with fail
  have hb2 : Below w.heap.size w ((w.alloc (.cells #[.string name] 9)).alloc (.cells #[.bool false] 4)) := ((Below.refl _ _).alloc (Nat.le_refl _) _).alloc (by simp) _
  refine (containsFunc_any v its name w.heap.size (w.heap.size + 1) _ (hI.below hb2) ?_ ?_).mono ?_
  · rw [World.cell?_of_block (w := w.alloc (.cells #[.string name] 9)) (by rw [Below.heap_alloc _ _ _ (by simp)]), row_cell (heap_new w _)]
    rfl
  · have := heap_new (w.alloc (.cells #[.string name] 9)) (.cells #[.bool false] 4)
    have e : (w.alloc (.cells #[.string name] 9)).heap.size = w.heap.size + 1 := by simp
    rw [e] at this
    rw [row_cell this]
    rfl
  rintro e w1 ⟨rfl, hb⟩
  go_wp2_with fail
  go_ret
  exact ⟨rfl, below_step hb2 hb⟩

set_option maxHeartbeats 400000 in
theorem covers_any (g : Nat) (its : List (ByteArray × List ByteArray)) (name : ByteArray) (w : World) (h : Sig w g its) :
    Calls Try.prog 9 #[.pointer (some ⟨g, 0, none⟩), .string name] w fun e w' => Yes (covers name its) w e w' := by
  go_enter Try.func9, Try.ntmps9
  go_wp2_with (go_at_call 12; refine (covers12_any g its name _ h).mono ?_; rintro e w1 ⟨rfl, hb⟩)
  go_ret
  exact ⟨rfl, hb⟩

theorem Sig.below {w w' : World} {g : Nat} {its : List (ByteArray × List ByteArray)} (h : Sig w g its) (hb : Below w.heap.size w w') : Sig w' g its := by
  obtain ⟨v, hc, hI⟩ := h
  exact ⟨v, (hb.cell (p := ⟨g, 1, none⟩) (World.block_lt_of_cell? w _ hc)).trans hc, hI.below hb⟩
end Go.Proofs.Qxb6604744a
