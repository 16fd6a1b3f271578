/- The walks of zzBytes.., valueIs and ZZvalueIs. -/
import Derived.Test.Qxb6604700aRows
import Derived.WalkKit
import Derived.ProofKit
import Derived.OpenShut
import Derived.ShutString
import Derived.BigQuiet
namespace Go.Proofs.Qxb6604700a
open Go.RowKit
set_option linter.unusedVariables false

set_option maxHeartbeats 400000 in
theorem bytes_ok (a0 : ByteArray) (a1 a2 a3 a4 : Int) (w : World) (h : a0.size ≤ 1048576) :
    Calls Try.prog 5 #[.string a0, .int .u8 a1, .int .i32 a2, .int .i32 a3, .int .i32 a4] w fun e w' => e = .returned (.bool true) ∧ w' = w := by
  go_enter Try.func5, Try.ntmps5
  go_wp2
  go_ret
  exact ⟨rfl, rfl⟩
set_option maxHeartbeats 400000 in
theorem bytes_no (a0 : ByteArray) (a1 a2 a3 a4 : Int) (w : World) (h : ¬ a0.size ≤ 1048576) (hm : a0.size ≤ maxLen) :
    Calls Try.prog 5 #[.string a0, .int .u8 a1, .int .i32 a2, .int .i32 a3, .int .i32 a4] w fun e w' => e = .returned (.bool false) ∧ w' = w := by
  unfold maxLen at hm
  go_enter Try.func5, Try.ntmps5
  go_wp2
  go_ret
  exact ⟨rfl, rfl⟩

theorem Grown.trans {a b c : World} (h : Grown a b) (k : Grown b c) : Grown a c :=
  ⟨World.keptBut_trans h.1 k.1, fun x => (k.2.1 x).trans (h.2.1 x), Nat.le_trans h.2.2 k.2.2⟩

set_option maxHeartbeats 800000 in
theorem value_no (g : Nat) (a0 : ByteArray) (a1 a2 x y c : Int) (w : World) (hg : w.cell? ⟨g, 0, none⟩ = some (.string a0)) (h1 : 0 ≤ x) (h2 : x ≤ y) (h3 : y ≤ 1048576) (hne : ¬ y - x = 1) :
    Calls Try.prog 15 #[.pointer (some ⟨g, 0, none⟩), .agg #[.int .u8 a1, .int .i32 a2, .int .i32 x, .int .i32 y], .int .u8 c] w fun e w' => e = .returned (.bool false) ∧ Grown w w' := by
  have hlt : g < w.heap.size := World.block_lt_of_cell? w ⟨g, 0, none⟩ hg
  have hd : (wrap32 (y - x) == 1) = false := by unfold wrap32; simp; omega
  clear h1 h2 h3 hne
  go_enter Try.func15, Try.ntmps15
  go_wp2_with fail
  go_quiet (fail)
  go_wp2
  go_ret
  exact ⟨rfl, by repeat (first | exact Grown.refl _ | apply Grown.drew | apply Grown.alloc)⟩

set_option maxHeartbeats 800000 in
theorem value_yes (g : Nat) (a0 : ByteArray) (a1 a2 : Int) (i : Nat) (y c : Int) (w : World) (hg : w.cell? ⟨g, 0, none⟩ = some (.string a0)) (hi : i < a0.size) (h3 : a0.size ≤ 1048576) (hy : y - i = 1) :
    Calls Try.prog 15 #[.pointer (some ⟨g, 0, none⟩), .agg #[.int .u8 a1, .int .i32 a2, .int .i32 i, .int .i32 y], .int .u8 c] w fun e w' => e = .returned (.bool (((a0[i]).toNat : Int) == c)) ∧ Grown w w' := by
  have hlt : g < w.heap.size := World.block_lt_of_cell? w ⟨g, 0, none⟩ hg
  have hd : (IntKind.i32.wrap (y - i) == 1) = true := by rw [IntKind.wrap_i32]; simp; omega
  have hi1 : (i : Int) < (a0.size : Int) := by omega
  have hi0 : (0 : Int) ≤ (i : Int) := by omega
  clear hy
  go_enter Try.func15, Try.ntmps15
  go_wp2_with fail
  go_quiet (fail)
  go_wp2
  go_ret
  exact ⟨rfl, by repeat (first | exact Grown.refl _ | apply Grown.drew | apply Grown.alloc)⟩

set_option maxHeartbeats 800000 in
theorem zz_no (a0 : ByteArray) (a1 a2 x y c : Int) (w : World) (h1 : 0 ≤ x) (h2 : x ≤ y) (h3 : y ≤ 1048576) (hne : ¬ y - x = 1) :
    Calls Try.prog 6 #[.string a0, .int .u8 a1, .int .i32 a2, .int .i32 x, .int .i32 y, .int .u8 c] w fun e w' => e = .returned (.bool false) ∧ Grown w w' := by
  go_enter Try.func6, Try.ntmps6
  go_wp2_with (go_at_call 15; refine (value_no w.heap.size a0 a1 a2 x y c _ ?_ h1 h2 h3 hne).mono ?_; (simp); rintro e w1 ⟨rfl, hg⟩)
  go_ret
  exact ⟨rfl, Qxb6604700a.Grown.trans ((Grown.refl w).alloc _ _) hg⟩

set_option maxHeartbeats 800000 in
theorem zz_yes (a0 : ByteArray) (a1 a2 : Int) (i : Nat) (y c : Int) (w : World) (hi : i < a0.size) (h3 : a0.size ≤ 1048576) (hy : y - i = 1) :
    Calls Try.prog 6 #[.string a0, .int .u8 a1, .int .i32 a2, .int .i32 i, .int .i32 y, .int .u8 c] w fun e w' => e = .returned (.bool (((a0[i]).toNat : Int) == c)) ∧ Grown w w' := by
  go_enter Try.func6, Try.ntmps6
  go_wp2_with (go_at_call 15; refine (value_yes w.heap.size a0 a1 a2 i y c _ ?_ hi h3 hy).mono ?_; (simp); rintro e w1 ⟨rfl, hg⟩)
  go_ret
  exact ⟨rfl, Qxb6604700a.Grown.trans ((Grown.refl w).alloc _ _) hg⟩
end Go.Proofs.Qxb6604700a
