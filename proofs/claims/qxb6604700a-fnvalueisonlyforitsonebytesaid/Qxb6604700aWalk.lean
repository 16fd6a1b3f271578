/- The walk of FnValueIsOnlyForItsOneByte. -/
import Derived.Test.Qxb6604700aCalls
namespace Go.Proofs.Qxb6604700a
open Go.RowKit
set_option linter.unusedVariables false

set_option maxHeartbeats 1600000 in
theorem walk_long (a0 : ByteArray) (a1 a2 a3 a4 : Int) (w : World) (h : ¬ a0.size ≤ 1048576) (hm : a0.size ≤ maxLen) :
    Calls Try.prog 3 #[.string a0, .int .u8 a1, .int .i32 a2, .int .i32 a3, .int .i32 a4] w fun e w' => e = .returned (.bool true) ∧ Grown w w' := by
  go_enter Try.func3, Try.ntmps3
  go_wp2_with (first | (go_at_call 5; refine (bytes_no a0 a1 a2 a3 a4 _ h hm).mono ?_; rintro e w1 ⟨rfl, hw⟩; subst w1))
  go_ret
  exact ⟨rfl, Grown.refl _⟩

set_option maxHeartbeats 1600000 in
theorem walk_out (a0 : ByteArray) (a1 a2 a3 a4 : Int) (w : World) (h : a0.size ≤ 1048576) (hb : a3 < 0 ∨ a4 < a3 ∨ (a0.size : Int) < a4) (hlo : -2147483648 ≤ a4) (hhi : a4 ≤ 2147483647) :
    Calls Try.prog 3 #[.string a0, .int .u8 a1, .int .i32 a2, .int .i32 a3, .int .i32 a4] w fun e w' => e = .returned (.bool true) ∧ Grown w w' := by
  have hc4 : decide (1048576 < (a0.size : Int)) = false := by simp; omega
  rcases (show a3 < 0 ∨ (¬ a3 < 0 ∧ a4 < a3) ∨ (¬ a3 < 0 ∧ ¬ a4 < a3 ∧ (a0.size : Int) < a4) by omega) with h1 | ⟨h1, h2⟩ | ⟨h1, h2, h3⟩
  all_goals
    clear hb
    go_enter Try.func3, Try.ntmps3
    go_wp2_with (first | (go_at_call 5; refine (bytes_ok a0 a1 a2 a3 a4 _ h).mono ?_; rintro e w1 ⟨rfl, hw⟩; subst w1))
    go_ret
    exact ⟨rfl, Grown.refl _⟩

set_option maxHeartbeats 1600000 in
set_option maxRecDepth 100000 in
theorem walk_no (a0 : ByteArray) (a1 a2 : Int) (i j : Nat) (w : World) (h1 : i ≤ j) (h2 : j ≤ a0.size) (h3 : a0.size ≤ 1048576) (hne : ¬ j = i + 1) :
    Calls Try.prog 3 #[.string a0, .int .u8 a1, .int .i32 a2, .int .i32 i, .int .i32 j] w fun e w' => e = .returned (.bool true) ∧ Grown w w' := by
  have hsz : (a0.extract i j).size = j - i := by simp; omega
  have hA1 : decide ((i : Int) < 0) = false := by simp
  have hA2 : decide (j < i) = false := by simp; omega
  have hA3 : decide (a0.size < j) = false := by simp; omega
  have hA4 : decide (1048576 < (a0.size : Int)) = false := by simp; omega
  go_enter Try.func3, Try.ntmps3
  go_wp2_with (first | (go_at_call 5; refine (bytes_ok a0 a1 a2 i j _ h3).mono ?_; rintro e w1 ⟨rfl, hw⟩; subst w1))
  go_loopw [12, 13, 14] (fun n f c wr => ∃ k : Nat, k ≤ 256 ∧ c = .int .i64 k ∧ n = .int .i64 0 ∧ f = .int .i64 0 ∧ Grown w wr) (fun _ _ c _ => 256 - (intOf c).toNat)
  case atStart => exact ⟨0, by omega, rfl, rfl, rfl, Grown.refl _⟩
  case round =>
    obtain ⟨k, hk, rfl, rfl, rfl, hgr⟩ := hrel
    by_cases hlt : k < 256
    · go_wp2_with (first | (go_at_call 6; refine (zz_no a0 a1 a2 i j _ _ (by omega) (by omega) (by omega) (by omega)).mono ?_; rintro e w1 ⟨rfl, hg1⟩))
      go_roundw
      case rel => exact ⟨k + 1, by omega, by go_num, rfl, rfl, Grown.trans hgr hg1⟩
      case measure => simp [intOf]; omega
    · go_wp2
      go_ret
      exact ⟨rfl, hgr⟩

set_option maxHeartbeats 1600000 in
set_option maxRecDepth 100000 in
theorem walk_yes (a0 : ByteArray) (a1 a2 : Int) (i j : Nat) (w : World) (h1 : i < a0.size) (h3 : a0.size ≤ 1048576) (hj : j - i = 1) (hj2 : i ≤ j) (hj3 : j ≤ a0.size) :
    Calls Try.prog 3 #[.string a0, .int .u8 a1, .int .i32 a2, .int .i32 i, .int .i32 j] w fun e w' => e = .returned (.bool true) ∧ Grown w w' := by
  obtain ⟨b, hb⟩ : ∃ b : Nat, b = (a0[i]).toNat := ⟨_, rfl⟩
  have hb2 : b < 256 := by rw [hb]; exact (a0[i]).toNat_lt
  have hz : ∀ (c : Int) (w : World), Calls Try.prog 6 #[.string a0, .int .u8 a1, .int .i32 a2, .int .i32 i, .int .i32 j, .int .u8 c] w fun e w' => e = .returned (.bool ((b : Int) == c)) ∧ Grown w w' := fun c w => by
    rw [hb]; exact zz_yes a0 a1 a2 i j c w h1 h3 (by omega)
  have HZ : Hid _ := hz
  have HB : Hid (b = (a0[i]).toNat) := hb
  clear hb hz
  have hA1 : decide ((i : Int) < 0) = false := by simp
  have hA2 : decide (j < i) = false := by simp; omega
  have hA3 : decide (a0.size < j) = false := by simp; omega
  have hA4 : decide (1048576 < (a0.size : Int)) = false := by simp; omega
  go_enter Try.func3, Try.ntmps3
  go_wp2_with (first | (go_at_call 5; refine (bytes_ok a0 a1 a2 i j _ h3).mono ?_; rintro e w1 ⟨rfl, hw⟩; subst w1))
  go_loopw [12, 13, 14] (fun n f c wr => ∃ k : Nat, k ≤ 256 ∧ c = .int .i64 k ∧ n = .int .i64 (if b < k then 1 else 0) ∧ f = .int .i64 (if b < k then (b : Int) else 0) ∧ Grown w wr) (fun _ _ c _ => 256 - (intOf c).toNat)
  case atStart => exact ⟨0, by omega, rfl, by simp, by simp, Grown.refl _⟩
  case round =>
    obtain ⟨k, hk, rfl, rfl, rfl, hgr⟩ := hrel
    by_cases hlt : k < 256
    · rcases Nat.lt_trichotomy k b with hc | hc | hc
      · have hq : ((b : Int) == (k : Int)) = false := by simp; omega
        have hq2 : ¬ b < k := by omega
        rw [if_neg hq2, if_neg hq2]
        go_wp2_with (first | (go_at_call 6; refine (HZ.out _ _).mono ?_; rintro e w1 ⟨rfl, hg1⟩))
        go_roundw
        case rel => exact ⟨k + 1, by omega, by go_num, by rw [if_neg (by omega)], by rw [if_neg (by omega)], Grown.trans hgr hg1⟩
        case measure => simp [intOf]; omega
      · subst hc
        rw [if_neg (by omega), if_neg (by omega)]
        go_wp2_with (first | (go_at_call 6; refine (HZ.out _ _).mono ?_; rintro e w1 ⟨rfl, hg1⟩))
        go_roundw
        case rel => exact ⟨k + 1, by omega, by go_num, by rw [if_pos (by omega)], by rw [if_pos (by omega)], Grown.trans hgr hg1⟩
        case measure => simp [intOf]; omega
      · have hq : ((b : Int) == (k : Int)) = false := by simp; omega
        rw [if_pos hc, if_pos hc]
        go_wp2_with (first | (go_at_call 6; refine (HZ.out _ _).mono ?_; rintro e w1 ⟨rfl, hg1⟩))
        go_roundw
        case rel => exact ⟨k + 1, by omega, by go_num, by rw [if_pos (by omega)], by rw [if_pos (by omega)], Grown.trans hgr hg1⟩
        case measure => simp [intOf]; omega
    · obtain rfl : k = 256 := by omega
      rw [if_pos hb2, if_pos hb2]
      have h0 : 0 < (a0.extract i j).size := by simp; omega
      have hfin : ((b : Int) == (((a0.extract i j)[0]'h0).toNat : Int)) = true := by rw [HB.out]; simp [ByteArray.getElem_extract]
      go_wp2
      go_ret
      exact ⟨rfl, hgr⟩

/-- The walk, whatever the arguments. -/
theorem walk (a0 : ByteArray) (a1 a2 a3 a4 : Int) (w0 : a0.size ≤ maxLen) (w4 : (Lit.int .i32 a4).wf = true) (w : World) :
    Calls Try.prog 3 #[.string a0, .int .u8 a1, .int .i32 a2, .int .i32 a3, .int .i32 a4] w fun e w' => e = .returned (.bool true) ∧ Grown w w' := by
  by_cases h3 : a0.size ≤ 1048576
  · by_cases hb : a3 < 0 ∨ a4 < a3 ∨ (a0.size : Int) < a4
    · exact walk_out a0 a1 a2 a3 a4 w h3 hb (bounds_i32 w4).1 (bounds_i32 w4).2
    · obtain ⟨i, rfl⟩ := Int.eq_ofNat_of_zero_le (show 0 ≤ a3 by omega)
      obtain ⟨j, rfl⟩ := Int.eq_ofNat_of_zero_le (show 0 ≤ a4 by omega)
      by_cases hj : j = i + 1
      · exact walk_yes a0 a1 a2 i j w (by omega) h3 (by omega) (by omega) (by omega)
      · exact walk_no a0 a1 a2 i j w (by omega) (by omega) h3 hj
  · exact walk_long a0 a1 a2 a3 a4 w h3 w0
end Go.Proofs.Qxb6604700a
