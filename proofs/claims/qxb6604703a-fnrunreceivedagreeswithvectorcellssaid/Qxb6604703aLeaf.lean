/- The small functions: SeqNum.Sub, Less, Add; normalBlock, dropBlock, optionBytes, cell; Run.Received. -/
import Derived.Test.Qxb6604703aRows
import Derived.WalkKit
import Derived.ProofKit
import Derived.WalkSpells
import Derived.BigQuiet
namespace Go.Proofs.Qxb6604703a
open Go.RowKit
set_option linter.unusedVariables false

theorem mask_bd (x : Int) : 0 ≤ bits BinOp.and IntKind.u64 (IntKind.u64.wrap x) 281474976710655 ∧ bits BinOp.and IntKind.u64 (IntKind.u64.wrap x) 281474976710655 ≤ 281474976710655 := by
  have hw : 0 ≤ IntKind.u64.wrap x ∧ IntKind.u64.wrap x < 18446744073709551616 := by rw [IntKind.wrap_u64]; omega
  rw [u64_and _ _ hw.1 hw.2 (by omega) (by omega)]
  have := Nat.and_le_right (n := (IntKind.u64.wrap x).toNat) (m := (281474976710655 : Int).toNat)
  omega

/-- (s - t) & (2^48 - 1). -/
def dist (s t : Int) : Int := bits BinOp.and IntKind.u64 (IntKind.u64.wrap (s - t)) 281474976710655
theorem dist_bd (s t : Int) : 0 ≤ dist s t ∧ dist s t ≤ 281474976710655 := mask_bd _
/-- The circular distance. -/
def subI (s t : Int) : Int := if 140737488355328 < dist s t then dist s t - 281474976710656 else dist s t
theorem subI_bd (s t : Int) : -140737488355328 ≤ subI s t ∧ subI s t ≤ 140737488355328 := by
  have := dist_bd s t
  unfold subI
  split <;> omega
def addI (s n : Int) : Int := bits BinOp.and IntKind.u64 (IntKind.u64.wrap (s + IntKind.u64.wrap n)) 281474976710655

set_option maxHeartbeats 400000 in
theorem sub_any (s t : Int) (w : World) : Calls Try.prog 30 #[.int .u64 s, .int .u64 t] w fun e w' => e = .returned (.int .i64 (subI s t)) ∧ w' = w := by
  have hb := mask_bd (s - t)
  obtain ⟨hb1, hb2⟩ := hb
  by_cases hc : 140737488355328 < bits BinOp.and IntKind.u64 (IntKind.u64.wrap (s - t)) 281474976710655
  · have HF : Hid (subI s t = bits BinOp.and IntKind.u64 (IntKind.u64.wrap (s - t)) 281474976710655 - 281474976710656) := if_pos hc
    go_enter Try.func30, Try.ntmps30
    go_wp2
    go_ret
    exact ⟨by rw [HF.out]; rfl, rfl⟩
  · have HF : Hid (subI s t = bits BinOp.and IntKind.u64 (IntKind.u64.wrap (s - t)) 281474976710655) := if_neg hc
    go_enter Try.func30, Try.ntmps30
    go_wp2
    go_ret
    exact ⟨by rw [HF.out]; rfl, rfl⟩

set_option maxHeartbeats 400000 in
theorem less_any (s t : Int) (w : World) : Calls Try.prog 36 #[.int .u64 s, .int .u64 t] w fun e w' => e = .returned (.bool (decide (subI s t < 0))) ∧ w' = w := by
  go_enter Try.func36, Try.ntmps36
  go_wp2_with (go_at_call 30; refine (sub_any s t _).mono ?_; rintro e w1 ⟨rfl, hw⟩; subst w1)
  go_ret
  exact ⟨rfl, rfl⟩

set_option maxHeartbeats 400000 in
theorem add_any (s n : Int) (w : World) : Calls Try.prog 38 #[.int .u64 s, .int .i64 n] w fun e w' => e = .returned (.int .u64 (addI s n)) ∧ w' = w := by
  go_enter Try.func38, Try.ntmps38
  go_wp2
  go_ret
  exact ⟨rfl, rfl⟩

/-- The cell that reports 'got' for n packets. -/
def cellI (got : Bool) (n : Nat) : Int := (if got then 0 else 192) + ((n : Int) - 1)

set_option maxHeartbeats 400000 in
theorem cell_any (got : Bool) (n : Nat) (w : World) (h1 : 1 ≤ n) (h2 : n ≤ 64) :
    Calls Try.prog 32 #[.int .u8 (if got then 0 else 3), .int .i64 n] w fun e w' => e = .returned (.int .u8 (cellI got n)) ∧ w' = w := by
  have hor : ∀ a : Nat, a = 0 ∨ a = 192 → bits BinOp.or IntKind.u8 (a : Int) ((n : Int) - 1) = a + ((n : Int) - 1) := by
    intro a ha
    have hn : ((n : Int) - 1) = ((n - 1 : Nat) : Int) := by omega
    rw [hn, u8_or_nat _ _ (by omega) (by omega)]
    have : ∀ m : Nat, m < 64 → (192 ||| m) = 192 + m := by decide
    rcases ha with rfl | rfl
    · simp
    · rw [this _ (by omega)]; omega
  cases got
  · have h192 := hor 192 (by simp)
    have HF : Hid (cellI false n = 192 + ((n : Int) - 1)) := rfl
    clear hor
    go_enter Try.func32, Try.ntmps32
    go_wp2
    go_ret
    refine ⟨?_, rfl⟩
    rw [HF.out]
    exact congrArg (fun x => Ending.returned (Value.int .u8 x)) h192
  · have h0 := hor 0 (by simp)
    have HF : Hid (cellI true n = 0 + ((n : Int) - 1)) := rfl
    clear hor
    go_enter Try.func32, Try.ntmps32
    go_wp2
    go_ret
    refine ⟨?_, rfl⟩
    rw [HF.out]
    exact congrArg (fun x => Ending.returned (Value.int .u8 x)) h0

set_option maxHeartbeats 400000 in
theorem dropBlock_any (n : Int) (w : World) : Calls Try.prog 39 #[.int .u8 2, .int .i64 n] w fun e w' => ∃ x, e = .returned (.int .u8 x) ∧ w' = w := by
  go_enter Try.func39, Try.ntmps39
  go_wp2
  go_ret
  exact ⟨_, rfl, rfl⟩
set_option maxHeartbeats 400000 in
theorem normalBlock_any (n : Int) (w : World) : Calls Try.prog 37 #[.int .i64 n] w fun e w' => ∃ x, e = .returned (.int .u8 x) ∧ w' = w := by
  go_enter Try.func37, Try.ntmps37
  go_wp2
  go_ret
  exact ⟨_, rfl, rfl⟩

/-- The bytes that n cells take. -/
def optB (n : Int) : Int := n + 2 * ((n + 253 - 1) / 253)
set_option maxHeartbeats 400000 in
theorem optionBytes_any (n : Int) (w : World) (h1 : 0 ≤ n) (h2 : n ≤ 1000000) : Calls Try.prog 31 #[.int .i64 n] w fun e w' => e = .returned (.int .i64 (optB n)) ∧ w' = w := by
  go_enter Try.func31, Try.ntmps31
  go_wp2
  go_ret
  exact ⟨rfl, rfl⟩

set_option maxHeartbeats 400000 in
theorem received_any (a b : Int) (got : Bool) (w : World) :
    Calls Try.prog 29 #[.agg #[.int .u64 a, .int .i64 b, .int .u8 (if got then 0 else 3)]] w fun e w' => e = .returned (.bool got) ∧ Below w.heap.size w w' := by
  cases got
  · go_enter Try.func29, Try.ntmps29
    go_wp2
    go_ret
    exact ⟨rfl, (Below.refl _ _).alloc (Nat.le_refl _) _⟩
  · go_enter Try.func29, Try.ntmps29
    go_wp2
    go_ret
    exact ⟨rfl, (Below.refl _ _).alloc (Nat.le_refl _) _⟩
end Go.Proofs.Qxb6604703a
