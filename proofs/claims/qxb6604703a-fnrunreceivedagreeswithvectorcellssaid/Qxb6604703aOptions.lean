/- (*Record).AppendOptions: the cells of the packets from ack down, in options of at most 253, and behind them perhaps a Data Dropped option. -/
import Derived.Test.Qxb6604703aPlain
import Derived.ArgAppend
namespace Go.Proofs.Qxb6604703a
open Go.RowKit
set_option linter.unusedVariables false

/-- What AppendOptions leaves. -/
def Left12 (g : Nat) (bv : Value) (zs : List Int) (rs : List Bool) (st : Bool) (base ack room : Int) (lr : Nat) (w : World) (e : Ending) (w' : World) : Prop :=
  ∃ v T, e = .returned v ∧ Own w' v (zs ++ T) ∧ Said rs st base ack room lr T ∧ Kp g bv.ownBlock w w'

theorem Kp.refl (g : Nat) (row : Option Nat) (w : World) : Kp g row w w := ⟨rfl, rfl, rfl, Nat.le_refl _, fun _ _ _ _ => rfl⟩
theorem Left12.none {g : Nat} {bv : Value} {zs : List Int} {rs : List Bool} {st : Bool} {base ack room : Int} {lr : Nat} {w w' : World} (h : Own w' bv zs) (hr : reachB st base ack room lr = false) (hk : Kp g bv.ownBlock w w') : Left12 g bv zs rs st base ack room lr w (.returned bv) w' :=
  ⟨bv, [], rfl, by simpa using h, Or.inl ⟨rfl, hr⟩, hk⟩

theorem subI_cases (ack base : Int) : (subI ack base = dist ack base ∧ dist ack base ≤ 140737488355328) ∨ (subI ack base < 0 ∧ 140737488355328 < dist ack base) := by
  have := dist_bd ack base
  unfold subI
  split <;> omega

set_option maxHeartbeats 1600000 in
set_option maxRecDepth 100000 in
/-- Nothing has begun, or the packet is past the record's end. -/
theorem options_stop (g : Nat) (st : Bool) (base : Int) (ar : Option Addr) (lr cr : Nat) (dv sv bv : Value) (zs : List Int) (rs : List Bool) (seq ack room : Int) (w : World) (hrec : Rec w g st base (.slice ar lr cr) dv sv (.slice none 0 0) (.slice none 0 0))
    (hown : Own w bv zs) (hno : st = false ∨ (lr : Int) ≤ subI ack base) :
    Calls Try.prog 12 #[.pointer (some ⟨g, 0, none⟩), bv, .int .u64 seq, .int .u64 ack, .int .i64 room] w fun e w' => Left12 g bv zs rs st base ack room lr w e w' := by
  have hgl : g < w.heap.size := (Array.getElem?_eq_some_iff.1 hrec.row).1
  have hc0 : w.cell? ⟨g, 0, none⟩ = some (.bool st) := row_cell hrec.row 0
  have hc1 : w.cell? ⟨g, 1, none⟩ = some (.int .u64 base) := row_cell hrec.row 1
  have hc2 : w.cell? ⟨g, 2, none⟩ = some (.slice ar lr cr) := row_cell hrec.row 2
  have HR : Hid (reachB st base ack room lr = false) := by
    show reachB st base ack room lr = false
    unfold reachB
    rcases hno with rfl | h
    · simp
    · rcases subI_cases ack base with ⟨e, _⟩ | ⟨e, _⟩
      · have : decide (dist ack base < (lr : Int)) = false := by simp; omega
        rw [this]; simp
      · omega
  cases st
  · clear hno
    go_enter Try.func12, Try.ntmps12
    go_wp2_with (go_at_call 30; refine (sub_any ack base _).mono ?_; rintro e w1 ⟨rfl, hw⟩; subst w1)
    go_ret
    exact Left12.none hown HR.out (Kp.refl _ _ _)
  · have hge : (lr : Int) ≤ subI ack base := by
      rcases hno with h | h
      · cases h
      · exact h
    clear hno
    go_enter Try.func12, Try.ntmps12
    go_wp2_with (go_at_call 30; refine (sub_any ack base _).mono ?_; rintro e w1 ⟨rfl, hw⟩; subst w1)
    go_ret
    exact Left12.none hown HR.out (Kp.refl _ _ _)

set_option maxHeartbeats 1600000 in
set_option maxRecDepth 100000 in
/-- The packet is below the record's base. -/
theorem options_below (g : Nat) (base : Int) (ar : Option Addr) (lr cr : Nat) (dv sv bv : Value) (zs : List Int) (rs : List Bool) (seq ack room : Int) (w : World) (hrec : Rec w g true base (.slice ar lr cr) dv sv (.slice none 0 0) (.slice none 0 0))
    (hlr : lr ≤ 65536) (hown : Own w bv zs) (hne : bv.ownBlock ≠ some g) (hno : subI ack base < 0) :
    Calls Try.prog 12 #[.pointer (some ⟨g, 0, none⟩), bv, .int .u64 seq, .int .u64 ack, .int .i64 room] w fun e w' => Left12 g bv zs rs true base ack room lr w e w' := by
  have hgl : g < w.heap.size := (Array.getElem?_eq_some_iff.1 hrec.row).1
  have hc0 : w.cell? ⟨g, 0, none⟩ = some (.bool true) := row_cell hrec.row 0
  have hc1 : w.cell? ⟨g, 1, none⟩ = some (.int .u64 base) := row_cell hrec.row 1
  have hc2 : w.cell? ⟨g, 2, none⟩ = some (.slice ar lr cr) := row_cell hrec.row 2
  have hc5 : w.cell? ⟨g, 5, none⟩ = some (.slice none 0 0) := row_cell hrec.row 5
  have hf5 : w.frozen? ⟨g, 5, none⟩ = false := row_free hrec.row 5
  have HR : Hid (reachB true base ack room lr = false) := by
    show reachB true base ack room lr = false
    unfold reachB
    rcases subI_cases ack base with ⟨e, _⟩ | ⟨e, _⟩
    · have := dist_bd ack base
      omega
    · have : decide (dist ack base < (lr : Int)) = false := by simp; omega
      rw [this]; simp
  have hlt : ¬ (lr : Int) ≤ subI ack base := by omega
  go_enter Try.func12, Try.ntmps12
  go_wp2_with (go_at_call 30; refine (sub_any ack base _).mono ?_; rintro e w1 ⟨rfl, hw⟩; subst w1)
  go_loopw [11, 12] (fun i cv wr => i = .int .i64 (subI ack base) ∧ cv = .slice none 0 0 ∧ wr = w) (fun _ _ _ => 0)
  case atStart => exact ⟨rfl, rfl, rfl⟩
  case round =>
    obtain ⟨rfl, rfl, hw⟩ := hrel
    subst wr
    go_wp2_with fail
    go_ret
    refine Left12.none ?_ HR.out ?_
    · refine Own.kept (row := some g) hown ⟨rfl, rfl, rfl, by simp, fun k hk hkg => ?_⟩ (Or.inr hne)
      exact Below.heap_setCell _ _ _ _ (fun e => hkg (by rw [e]))
    · exact ⟨rfl, rfl, rfl, by simp, fun k hk hkg _ => Below.heap_setCell _ _ _ _ hkg⟩
end Go.Proofs.Qxb6604703a
