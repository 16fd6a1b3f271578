/- The walk of FnCoversGrowsByAnUntrailedId. -/
import Derived.Test.Qxb6604744aRow
namespace Go.Proofs.Qxb6604744a
open Go.RowKit
set_option linter.unusedVariables false

def F1 (xs : List ByteArray) (k : Nat) (j : Nat) : Value := if j < k then .string (xs.getD j ByteArray.empty) else .string ByteArray.empty
def F3 (ts : List Bool) (k : Nat) (j : Nat) : Value := if j < k then .bool (ts.getD j false) else .bool false
def F4 (n : Nat) (xs : List ByteArray) (k : Nat) (j : Nat) : Value := if n ≤ j + k then .string (xs.getD (n - 1 - j) ByteArray.empty) else .string ByteArray.empty
def F6 (n : Nat) (ts : List Bool) (k : Nat) (j : Nat) : Value := if n ≤ j + k then .bool (ts.getD (n - 1 - j) false) else .bool false

/-- The six rows, each so far filled. -/
structure S6 (w6 : World) (n : Nat) (is ks : List ByteArray) (ts : List Bool) (k1 k2 k3 k4 k5 k6 : Nat) (X : World) : Prop where
  r1 : Row X w6.heap.size (n + 1) 9 (F1 is k1)
  r2 : Row X (w6.heap.size + 1) (n + 1) 9 (F1 ks k2)
  r3 : Row X (w6.heap.size + 1 + 1) (n + 1) 4 (F3 ts k3)
  r4 : Row X (w6.heap.size + 1 + 1 + 1) n 9 (F4 n is k4)
  r5 : Row X (w6.heap.size + 1 + 1 + 1 + 1) n 9 (F4 n ks k5)
  r6 : Row X (w6.heap.size + 1 + 1 + 1 + 1 + 1) n 4 (F6 n ts k6)
  below : Below w6.heap.size w6 X

variable {w6 X : World} {n : Nat} {is ks : List ByteArray} {ts : List Bool} {k1 k2 k3 k4 k5 k6 : Nat}
theorem S6.s1 (h : S6 w6 n is ks ts k1 k2 k3 k4 k5 k6 X) : S6 w6 n is ks ts (k1 + 1) k2 k3 k4 k5 k6 (X.setCell ⟨w6.heap.size, k1, none⟩ (.string (is.getD k1 ByteArray.empty))) :=
  ⟨h.r1.set _ _ (fun i hi => by unfold F1; by_cases e : i = k1 <;> simp [e] <;> split <;> split <;> first | rfl | omega), h.r2.other _ _ _ (by omega), h.r3.other _ _ _ (by omega), h.r4.other _ _ _ (by omega), h.r5.other _ _ _ (by omega), h.r6.other _ _ _ (by omega), h.below.setCell (p := ⟨w6.heap.size, k1, none⟩) (Nat.le_refl _) _⟩
theorem S6.s2 (h : S6 w6 n is ks ts k1 k2 k3 k4 k5 k6 X) : S6 w6 n is ks ts k1 (k2 + 1) k3 k4 k5 k6 (X.setCell ⟨w6.heap.size + 1, k2, none⟩ (.string (ks.getD k2 ByteArray.empty))) :=
  ⟨h.r1.other _ _ _ (by omega), h.r2.set _ _ (fun i hi => by unfold F1; by_cases e : i = k2 <;> simp [e] <;> split <;> split <;> first | rfl | omega), h.r3.other _ _ _ (by omega), h.r4.other _ _ _ (by omega), h.r5.other _ _ _ (by omega), h.r6.other _ _ _ (by omega), h.below.setCell (p := ⟨w6.heap.size + 1, k2, none⟩) (by simp <;> omega) _⟩
theorem F3_step (k : Nat) (ts : List Bool) (n : Nat) : ∀ i, i < n → F3 ts (k + 1) i = if i = k then .bool (ts.getD k false) else F3 ts k i := by
  intro i _
  unfold F3
  by_cases e : i = k
  · rw [if_pos e, if_pos (by omega), e]
  · rw [if_neg e]
    by_cases h : i < k
    · rw [if_pos h, if_pos (by omega)]
    · rw [if_neg h, if_neg (by omega)]
theorem S6.s3 (h : S6 w6 n is ks ts k1 k2 k3 k4 k5 k6 X) : S6 w6 n is ks ts k1 k2 (k3 + 1) k4 k5 k6 (X.setCell ⟨w6.heap.size + 1 + 1, k3, none⟩ (.bool (ts.getD k3 false))) :=
  ⟨h.r1.other _ _ _ (by omega), h.r2.other _ _ _ (by omega), h.r3.set _ _ (F3_step k3 ts _), h.r4.other _ _ _ (by omega), h.r5.other _ _ _ (by omega), h.r6.other _ _ _ (by omega), h.below.setCell (p := ⟨w6.heap.size + 1 + 1, k3, none⟩) (by simp <;> omega) _⟩
theorem F4_step (n k : Nat) (xs : List ByteArray) (hk : k < n) : ∀ i, i < n → F4 n xs (k + 1) i = if i = n - 1 - k then .string (xs.getD k ByteArray.empty) else F4 n xs k i := by
  intro i hi
  unfold F4
  by_cases e : i = n - 1 - k
  · rw [if_pos e, if_pos (by omega), show n - 1 - i = k by omega]
  · rw [if_neg e]
    by_cases h : n ≤ i + k
    · rw [if_pos h, if_pos (by omega)]
    · rw [if_neg h, if_neg (by omega)]
theorem F6_step (n k : Nat) (ts : List Bool) (hk : k < n) : ∀ i, i < n → F6 n ts (k + 1) i = if i = n - 1 - k then .bool (ts.getD k false) else F6 n ts k i := by
  intro i hi
  unfold F6
  by_cases e : i = n - 1 - k
  · rw [if_pos e, if_pos (by omega), show n - 1 - i = k by omega]
  · rw [if_neg e]
    by_cases h : n ≤ i + k
    · rw [if_pos h, if_pos (by omega)]
    · rw [if_neg h, if_neg (by omega)]
theorem S6.s4 (h : S6 w6 n is ks ts k1 k2 k3 k4 k5 k6 X) (hk : k4 < n) : S6 w6 n is ks ts k1 k2 k3 (k4 + 1) k5 k6 (X.setCell ⟨w6.heap.size + 1 + 1 + 1, n - 1 - k4, none⟩ (.string (is.getD k4 ByteArray.empty))) :=
  ⟨h.r1.other _ _ _ (by omega), h.r2.other _ _ _ (by omega), h.r3.other _ _ _ (by omega), h.r4.set _ _ (F4_step n k4 is hk), h.r5.other _ _ _ (by omega), h.r6.other _ _ _ (by omega), h.below.setCell (p := ⟨w6.heap.size + 1 + 1 + 1, n - 1 - k4, none⟩) (by simp <;> omega) _⟩
theorem S6.s5 (h : S6 w6 n is ks ts k1 k2 k3 k4 k5 k6 X) (hk : k5 < n) : S6 w6 n is ks ts k1 k2 k3 k4 (k5 + 1) k6 (X.setCell ⟨w6.heap.size + 1 + 1 + 1 + 1, n - 1 - k5, none⟩ (.string (ks.getD k5 ByteArray.empty))) :=
  ⟨h.r1.other _ _ _ (by omega), h.r2.other _ _ _ (by omega), h.r3.other _ _ _ (by omega), h.r4.other _ _ _ (by omega), h.r5.set _ _ (F4_step n k5 ks hk), h.r6.other _ _ _ (by omega), h.below.setCell (p := ⟨w6.heap.size + 1 + 1 + 1 + 1, n - 1 - k5, none⟩) (by simp <;> omega) _⟩
theorem S6.s6 (h : S6 w6 n is ks ts k1 k2 k3 k4 k5 k6 X) (hk : k6 < n) : S6 w6 n is ks ts k1 k2 k3 k4 k5 (k6 + 1) (X.setCell ⟨w6.heap.size + 1 + 1 + 1 + 1 + 1, n - 1 - k6, none⟩ (.bool (ts.getD k6 false))) :=
  ⟨h.r1.other _ _ _ (by omega), h.r2.other _ _ _ (by omega), h.r3.other _ _ _ (by omega), h.r4.other _ _ _ (by omega), h.r5.other _ _ _ (by omega), h.r6.set _ _ (F6_step n k6 ts hk), h.below.setCell (p := ⟨w6.heap.size + 1 + 1 + 1 + 1 + 1, n - 1 - k6, none⟩) (by simp <;> omega) _⟩
theorem S6.drew (h : S6 w6 n is ks ts k1 k2 k3 k4 k5 k6 X) : S6 w6 n is ks ts k1 k2 k3 k4 k5 k6 X.drew := ⟨h.r1.kept rfl, h.r2.kept rfl, h.r3.kept rfl, h.r4.kept rfl, h.r5.kept rfl, h.r6.kept rfl, h.below.drew⟩

theorem S6.start (w6 : World) (n : Nat) (is ks : List ByteArray) (ts : List Bool) : S6 w6 n is ks ts 0 0 0 0 0 0 ((((((w6.alloc (.cells (zeros (n + 1) (.string ByteArray.empty)) 9)).alloc (.cells (zeros (n + 1) (.string ByteArray.empty)) 9)).alloc (.cells (zeros (n + 1) (.bool false)) 4)).alloc (.cells (zeros n (.string ByteArray.empty)) 9)).alloc (.cells (zeros n (.string ByteArray.empty)) 9)).alloc (.cells (zeros n (.bool false)) 4)) := by
  have e : ∀ (w : World) (o : Obj), (w.alloc o).heap.size = w.heap.size + 1 := fun w o => by simp
  have q1 := Row.made w6 (n + 1) (.string ByteArray.empty) 9
  have q2 := Row.made (w6.alloc (.cells (zeros (n + 1) (.string ByteArray.empty)) 9)) (n + 1) (.string ByteArray.empty) 9
  have q3 := Row.made ((w6.alloc (.cells (zeros (n + 1) (.string ByteArray.empty)) 9)).alloc (.cells (zeros (n + 1) (.string ByteArray.empty)) 9)) (n + 1) (.bool false) 4
  have q4 := Row.made (((w6.alloc (.cells (zeros (n + 1) (.string ByteArray.empty)) 9)).alloc (.cells (zeros (n + 1) (.string ByteArray.empty)) 9)).alloc (.cells (zeros (n + 1) (.bool false)) 4)) n (.string ByteArray.empty) 9
  have q5 := Row.made ((((w6.alloc (.cells (zeros (n + 1) (.string ByteArray.empty)) 9)).alloc (.cells (zeros (n + 1) (.string ByteArray.empty)) 9)).alloc (.cells (zeros (n + 1) (.bool false)) 4)).alloc (.cells (zeros n (.string ByteArray.empty)) 9)) n (.string ByteArray.empty) 9
  have q6 := Row.made (((((w6.alloc (.cells (zeros (n + 1) (.string ByteArray.empty)) 9)).alloc (.cells (zeros (n + 1) (.string ByteArray.empty)) 9)).alloc (.cells (zeros (n + 1) (.bool false)) 4)).alloc (.cells (zeros n (.string ByteArray.empty)) 9)).alloc (.cells (zeros n (.string ByteArray.empty)) 9)) n (.bool false) 4
  rw [e] at q2 q3 q4 q5 q6
  rw [e] at q3 q4 q5 q6
  rw [e] at q4 q5 q6
  rw [e] at q5 q6
  rw [e] at q6
  refine ⟨(((((q1.alloc _).alloc _).alloc _).alloc _).alloc _).congr (fun j hj => by simp [F1]), ((((q2.alloc _).alloc _).alloc _).alloc _).congr (fun j hj => by simp [F1]), (((q3.alloc _).alloc _).alloc _).congr (fun j hj => by simp [F3]), ((q4.alloc _).alloc _).congr (fun j hj => by unfold F4; rw [if_neg (by omega)]), (q5.alloc _).congr (fun j hj => by unfold F4; rw [if_neg (by omega)]), q6.congr (fun j hj => by unfold F6; rw [if_neg (by omega)]), ?_⟩
  exact ((((((Below.refl _ _).alloc (Nat.le_refl _) _).alloc (by simp) _).alloc (by simp; omega) _).alloc (by simp; omega) _).alloc (by simp; omega) _).alloc (by simp; omega) _

theorem app_at {α : Type} {c : α → Value} {f : Nat → Value} {ys : List α} {n : Nat} {z : α} (hl : ys.length = n) (hf : ∀ j (h : j < ys.length), f j = c ys[j]) : ∀ j (hj : j < (ys ++ [z]).length), (if j = n then c z else f j) = c (ys ++ [z])[j] := by
  intro j hj
  by_cases e : j = n
  · subst e
    subst hl
    rw [if_pos rfl]
    simp
  · have hj' : j < ys.length := by simp at hj; omega
    rw [if_neg e, List.getElem_append_left hj']
    exact hf j hj'
/-- The keys that stand beside the ids, as many. -/
def padK (n : Nat) (ks : List ByteArray) : List ByteArray := (List.range n).map (fun k => ks.getD k ByteArray.empty)
theorem padK_len (n : Nat) (ks : List ByteArray) : (padK n ks).length = n := by simp [padK]
theorem F1_is {n : Nat} {xs : List ByteArray} (hl : xs.length = n) : ∀ j (h : j < xs.length), F1 xs n j = .string xs[j] := by
  intro j h
  unfold F1
  rw [if_pos (by omega)]
  simp [List.getD, h]
theorem F1_ks (n : Nat) (xs : List ByteArray) : ∀ j (h : j < (padK n xs).length), F1 xs n j = .string (padK n xs)[j] := by
  intro j h
  unfold F1
  rw [padK_len] at h
  rw [if_pos h]
  simp [padK]
theorem F3_ts (n : Nat) (ts : List Bool) : ∀ j (h : j < (pad n ts).length), F3 ts n j = .bool (pad n ts)[j] := by
  intro j h
  unfold F3
  rw [pad_len] at h
  rw [if_pos h]
  simp [pad]
theorem F4_is {n : Nat} {xs : List ByteArray} (hl : xs.length = n) : ∀ j (h : j < xs.reverse.length), F4 n xs n j = .string xs.reverse[j] := by
  intro j h
  unfold F4
  have hj : j < xs.length := by simpa using h
  rw [if_pos (by omega), List.getElem_reverse]
  subst hl
  simp [List.getD, show xs.length - 1 - j < xs.length by omega]
theorem F4_ks (n : Nat) (xs : List ByteArray) : ∀ j (h : j < (padK n xs).reverse.length), F4 n xs n j = .string (padK n xs).reverse[j] := by
  intro j h
  unfold F4
  have hj : j < n := by simpa [padK_len] using h
  rw [if_pos (by omega), List.getElem_reverse]
  simp [padK]
theorem F6_ts (n : Nat) (ts : List Bool) : ∀ j (h : j < (pad n ts).reverse.length), F6 n ts n j = .bool (pad n ts).reverse[j] := by
  intro j h
  unfold F6
  have hj : j < n := by simpa [pad_len] using h
  rw [if_pos (by omega), List.getElem_reverse]
  simp [pad]
theorem eq_of_iffs {a b : Bool} {P : Prop} (h : a = true ↔ P) (k : b = true ↔ P) : a = b := by
  cases a <;> cases b <;> simp_all

theorem mk9 (n : Nat) (hn : n ≤ 1048577) (w : World) : (Instr.makeSlice 22 (.int .i64 n) (.int .i64 n)).run Try.prog w = .ok (.slice (some ⟨w.heap.size, 0, none⟩) n n) (w.alloc (.cells (zeros n (.string ByteArray.empty)) 9)) :=
  run_mk Try.underlying22 info9 rfl (by omega) n hn w
theorem mk4 (n : Nat) (hn : n ≤ 1048577) (w : World) : (Instr.makeSlice 23 (.int .i64 n) (.int .i64 n)).run Try.prog w = .ok (.slice (some ⟨w.heap.size, 0, none⟩) n n) (w.alloc (.cells (zeros n (.bool false)) 4)) :=
  run_mk Try.underlying23 info4 rfl (by omega) n hn w

set_option maxHeartbeats 6400000 in
set_option maxRecDepth 100000 in
theorem walk (a0 a1 a2 : Option Addr) (l0 c0 l1 c1 l2 c2 : Nat) (is ks : List ByteArray) (ts : List Bool) (nm ot ky : ByteArray) (w : World) (h0 : Rd w a0 l0 (is.map .string)) (h1 : Rd w a1 l1 (ks.map .string)) (h2 : Rd w a2 l2 (ts.map .bool)) :
    Calls Try.prog 3 #[.slice a0 l0 c0, .slice a1 l1 c1, .slice a2 l2 c2, .string nm, .string ot, .string ky] w fun e w' => e = .returned (.bool true) ∧ Below w.heap.size w w' := by
  have hil : is.length = l0 := by have := h0.len_eq; simpa using this
  go_enter Try.func3, Try.ntmps3
  go_wp2_with fail
  refine (bytes_any a0 a1 a2 l0 c0 l1 c1 l2 c2 is ks nm ot ky w h0 h1).mono ?_
  rintro e w1 ⟨r, rfl, hw, hr⟩
  subst w1
  cases r
  · go_wp2_with fail
    go_ret
    exact ⟨rfl, Below.refl _ _⟩
  obtain ⟨m0, m1, m2⟩ := hr rfl
  clear hr
  go_wp2_with fail
  refine (strBytes_any a0 l0 c0 is w h0 m0).mono ?_
  rintro e w1 ⟨x1, rfl, hw⟩
  subst w1
  go_wp2_with fail
  refine (strBytes_any a1 l1 c1 ks w h1 m1).mono ?_
  rintro e w1 ⟨x2, rfl, hw⟩
  subst w1
  cases heq : (ot.toList == nm.toList)
  rotate_left
  · go_wp2_with fail
    all_goals
      go_ret
      exact ⟨rfl, Below.refl _ _⟩
  go_wp2_with fail
  all_goals try (go_ret; exact ⟨rfl, Below.refl _ _⟩)
  refine (cloneStrs a0 l0 c0 is w h0 m0).mono ?_
  rintro e w1 ⟨b0, rfl, hI, hN1⟩
  go_wp2_with fail
  refine (cloneStrs a1 l1 c1 ks w1 (h1.below hN1.below) m1).mono ?_
  rintro e w2 ⟨b1, rfl, hK, hN2⟩
  have hB2 := below_step hN1.below hN2.below
  go_wp2_with fail
  refine (cloneBools a2 l2 c2 ts w2 (h2.below hB2) m2).mono ?_
  rintro e w3 ⟨b2, rfl, hT, hN3⟩
  have hB3 := below_step hB2 hN3.below
  have hI3 := (hI.below hN2.below).below hN3.below
  have hK3 := hK.below hN3.below
  go_wp2_with fail
  refine (newSig_any b0 b1 b2 l0 l0 l1 l1 l2 l2 is ks ts w3 (by omega) hI3 hK3 hT).mono ?_
  rintro e w4 ⟨g, its, rfl, hSig, hitl, hIts, hN4⟩
  have hB4 := below_step hB3 hN4
  go_wp2_with fail
  refine (covers_any g its nm w4 hSig).mono ?_
  rintro e w5 ⟨rfl, hN5⟩
  go_wp2_with fail
  refine (covers_any g its ot w5 (hSig.below hN5)).mono ?_
  rintro e w6 ⟨rfl, hN6⟩
  have hB6 := below_step (below_step hB4 hN5) hN6
  have hI6 := ((hI3.below hN4).below hN5).below hN6
  have hK6 := ((hK3.below hN4).below hN5).below hN6
  have hT6 := ((hT.below hN4).below hN5).below hN6
  have HC0 : Hid (covers nm its = true ↔ cov nm is ts) := covers_iff (by omega) hIts
  have HO0 : Hid (covers ot its = true ↔ cov ot is ts) := covers_iff (by omega) hIts
  generalize covers nm its = cc0 at HC0 ⊢
  generalize covers ot its = oo0 at HO0 ⊢
  clear hSig hitl hIts hN4 hN5 hN6 hB4 hB3 hB2 hN1 hN2 hN3 hI3 hK3 hT hI hK h0 h1 h2
  have hm1 : ∀ w : World, (Instr.makeSlice 22 (.int .i64 ((l0 : Int) + 1)) (.int .i64 ((l0 : Int) + 1))).run Try.prog w = .ok (.slice (some ⟨w.heap.size, 0, none⟩) (l0 + 1) (l0 + 1)) (w.alloc (.cells (zeros (l0 + 1) (.string ByteArray.empty)) 9)) := fun w => by
    have := mk9 (l0 + 1) (by omega) w
    simpa using this
  have hm2 : ∀ w : World, (Instr.makeSlice 23 (.int .i64 ((l0 : Int) + 1)) (.int .i64 ((l0 : Int) + 1))).run Try.prog w = .ok (.slice (some ⟨w.heap.size, 0, none⟩) (l0 + 1) (l0 + 1)) (w.alloc (.cells (zeros (l0 + 1) (.bool false)) 4)) := fun w => by
    have := mk4 (l0 + 1) (by omega) w
    simpa using this
  have hm3 := mk9 l0 (by omega)
  have hm4 := mk4 l0 (by omega)
  go_wp2_with fail
  go_loopw [23] (fun i wr => ∃ k : Nat, k ≤ l0 ∧ i = .int .i64 k ∧ S6 w6 l0 is ks ts k k k k k k wr) (fun i _ => l0 - (intOf i).toNat)
  case atStart =>
    exact ⟨0, by omega, rfl, S6.start _ _ _ _ _⟩
  case round =>
    obtain ⟨k, hk, rfl, hS⟩ := hrel
    clear hm1 hm2 hm3 hm4
    by_cases hlt : k < l0
    · obtain ⟨bi, oi, x, rfl, hx, hxs⟩ := rd_at hI6 k hlt
      have hbi : bi < w6.heap.size := hI6.lt (by omega)
      have hxe : is.getD k ByteArray.empty = x := by simp [List.getD, hxs]
      obtain ⟨kx, hkx⟩ : ∃ kx, ks.getD k ByteArray.empty = kx := ⟨_, rfl⟩
      obtain ⟨tx, htx⟩ : ∃ tx, ts.getD k false = tx := ⟨_, rfl⟩
      have HKEY : Hid (∀ X, Below w6.heap.size w6 X → Calls Try.prog 10 #[.slice b1 l1 l1, .int .i64 k] X fun e w' => e = .returned (.string kx) ∧ w' = X) := fun X hX => by
        rw [← hkx]
        exact keyAt_any b1 l1 l1 ks k X (hK6.below hX)
      have HTR : Hid (∀ X, Below w6.heap.size w6 X → Calls Try.prog 11 #[.slice b2 l2 l2, .int .i64 k] X fun e w' => e = .returned (.bool tx) ∧ w' = X) := fun X hX => by
        rw [← htx]
        exact trAt_any b2 l2 l2 ts k X (hT6.below hX)
      have hS1 := hS.s1
      have hc1 : wr.cell? ⟨bi, oi + k, none⟩ = some (.string x) := (hS.below.cell (p := ⟨bi, oi + k, none⟩) hbi).trans hx
      have ht1 := hS.r1.cell k (by omega)
      have hf1 := hS.r1.free k
      rw [hxe] at hS1
      obtain ⟨X1, hX1⟩ : ∃ X1, wr.setCell ⟨w6.heap.size, k, none⟩ (.string x) = X1 := ⟨_, rfl⟩
      rw [hX1] at hS1
      have HX1 : Hid _ := hX1
      have HX : Hid _ := hx
      clear hX1 hS hx hxs
      go_upto_region 24 with fail
      rw [HX1.out]
      clear HX1 hc1 ht1 hf1
      have ht2 := hS1.r2.cell k (by omega)
      have hf2 := hS1.r2.free k
      obtain ⟨J, hJ⟩ : ∃ J : Nat, (l0 : Int) - 1 - (k : Int) = J := ⟨l0 - 1 - k, by omega⟩
      have hJe : l0 - 1 - k = J := by omega
      have hJl : J < l0 := by omega
      have hS2 := hS1.s2
      rw [hkx] at hS2
      obtain ⟨X2, hX2⟩ : ∃ X2, X1.setCell ⟨w6.heap.size + 1, k, none⟩ (.string kx) = X2 := ⟨_, rfl⟩
      rw [hX2] at hS2
      have HX2 : Hid _ := hX2
      have HBE2 : Hid _ := hS1.below
      clear hX2 hS1
      go_upto_region 25 with (go_at_call 10; refine (HKEY.out _ HBE2.out).mono ?_; rintro e w7 ⟨rfl, hw⟩; subst w7)
      rw [HX2.out]
      clear HX2 HBE2 ht2 hf2
      have hS3 := hS2.s3
      rw [htx] at hS3
      have ht3 := hS2.r3.cell k (by omega)
      have hf3 := hS2.r3.free k
      obtain ⟨X3, hX3⟩ : ∃ X3, X2.setCell ⟨w6.heap.size + 1 + 1, k, none⟩ (.bool tx) = X3 := ⟨_, rfl⟩
      rw [hX3] at hS3
      have HX3 : Hid _ := hX3
      have HBE3 : Hid _ := hS2.below
      clear hX3 hS2
      go_upto_region 26 with (go_at_call 11; refine (HTR.out _ HBE3.out).mono ?_; rintro e w7 ⟨rfl, hw⟩; subst w7)
      rw [HX3.out]
      clear HX3 HBE3 ht3 hf3
      have hS4 := hS3.s4 hlt
      rw [hxe] at hS4
      rw [hJe] at hS4
      have ht4 := hS3.r4.cell J (by omega)
      have hf4 := hS3.r4.free J
      have hc4 : X3.cell? ⟨bi, oi + k, none⟩ = some (.string x) := (hS3.below.cell (p := ⟨bi, oi + k, none⟩) hbi).trans HX.out
      obtain ⟨X4, hX4⟩ : ∃ X4, X3.setCell ⟨w6.heap.size + 1 + 1 + 1, J, none⟩ (.string x) = X4 := ⟨_, rfl⟩
      rw [hX4] at hS4
      have HX4 : Hid _ := hX4
      have HBE4 : Hid _ := hS3.below
      clear hX4 hS3
      go_upto_region 27 with (fail)
      rw [HX4.out]
      clear HX4 HBE4 ht4 hf4 hc4
      have hS5 := hS4.s5 hlt
      rw [hkx] at hS5
      rw [hJe] at hS5
      have ht5 := hS4.r5.cell J (by omega)
      have hf5 := hS4.r5.free J
      obtain ⟨X5, hX5⟩ : ∃ X5, X4.setCell ⟨w6.heap.size + 1 + 1 + 1 + 1, J, none⟩ (.string kx) = X5 := ⟨_, rfl⟩
      rw [hX5] at hS5
      have HX5 : Hid _ := hX5
      have HBE5 : Hid _ := hS4.below
      clear hX5 hS4
      go_upto_region 28 with (go_at_call 10; refine (HKEY.out _ HBE5.out).mono ?_; rintro e w7 ⟨rfl, hw⟩; subst w7)
      rw [HX5.out]
      clear HX5 HBE5 ht5 hf5
      have hS6 := hS5.s6 hlt
      rw [htx] at hS6
      rw [hJe] at hS6
      have ht6 := hS5.r6.cell J (by omega)
      have hf6 := hS5.r6.free J
      obtain ⟨X6, hX6⟩ : ∃ X6, X5.setCell ⟨w6.heap.size + 1 + 1 + 1 + 1 + 1, J, none⟩ (.bool tx) = X6 := ⟨_, rfl⟩
      rw [hX6] at hS6
      have HX6 : Hid _ := hX6
      have HBE6 : Hid _ := hS5.below
      clear hX6 hS5
      go_upto_region 22 with (go_at_call 11; refine (HTR.out _ HBE6.out).mono ?_; rintro e w7 ⟨rfl, hw⟩; subst w7)
      rw [HX6.out]
      clear HX6 HBE6 ht6 hf6
      go_wp2_with fail
      go_roundw
      case rel => exact ⟨k + 1, by omega, by go_num, hS6⟩
      case measure => simp [intOf]; omega
    · have hke : k = l0 := by omega
      subst hke
      clear hlt
      have hn1 : k < k + 1 := by omega
      -- the three stores
      have q1 := hS.r1.set k (.string nm) (f' := fun j => if j = k then .string nm else F1 is k j) (fun i _ => rfl)
      have t1 := hS.r1.cell k hn1
      have f1 := hS.r1.free k
      have q2 := hS.r2.other w6.heap.size k (.string nm) (by omega)
      have q3 := hS.r3.other w6.heap.size k (.string nm) (by omega)
      have q4 := hS.r4.other w6.heap.size k (.string nm) (by omega)
      have q5 := hS.r5.other w6.heap.size k (.string nm) (by omega)
      have q6 := hS.r6.other w6.heap.size k (.string nm) (by omega)
      have qb := hS.below.setCell (p := ⟨w6.heap.size, k, none⟩) (Nat.le_refl _) (.string nm)
      obtain ⟨Y1, hY1⟩ : ∃ Y1, wr.setCell ⟨w6.heap.size, k, none⟩ (.string nm) = Y1 := ⟨_, rfl⟩
      rw [hY1] at q1 q2 q3 q4 q5 q6 qb
      have HY : Hid _ := hY1
      clear hY1 hS
      go_upto_region 30 with fail
      rw [HY.out]
      clear HY t1 f1
      have p1 := q1.other (w6.heap.size + 1) k (.string ky) (by omega)
      have p2 := q2.set k (.string ky) (f' := fun j => if j = k then .string ky else F1 ks k j) (fun i _ => rfl)
      have t1 := q2.cell k hn1
      have f1 := q2.free k
      have p3 := q3.other (w6.heap.size + 1) k (.string ky) (by omega)
      have p4 := q4.other (w6.heap.size + 1) k (.string ky) (by omega)
      have p5 := q5.other (w6.heap.size + 1) k (.string ky) (by omega)
      have p6 := q6.other (w6.heap.size + 1) k (.string ky) (by omega)
      have pb := qb.setCell (p := ⟨w6.heap.size + 1, k, none⟩) (by simp) (.string ky)
      obtain ⟨Y2, hY2⟩ : ∃ Y2, Y1.setCell ⟨w6.heap.size + 1, k, none⟩ (.string ky) = Y2 := ⟨_, rfl⟩
      rw [hY2] at p1 p2 p3 p4 p5 p6 pb
      have HY : Hid _ := hY2
      clear hY2 q1 q2 q3 q4 q5 q6 qb
      go_upto_region 31 with fail
      rw [HY.out]
      clear HY t1 f1
      have q1 := p1.other (w6.heap.size + 1 + 1) k (.bool true) (by omega)
      have q2 := p2.other (w6.heap.size + 1 + 1) k (.bool true) (by omega)
      have q3 := p3.set k (.bool true) (f' := fun j => if j = k then .bool true else F3 ts k j) (fun i _ => rfl)
      have t1 := p3.cell k hn1
      have f1 := p3.free k
      have q4 := p4.other (w6.heap.size + 1 + 1) k (.bool true) (by omega)
      have q5 := p5.other (w6.heap.size + 1 + 1) k (.bool true) (by omega)
      have q6 := p6.other (w6.heap.size + 1 + 1) k (.bool true) (by omega)
      have qb := pb.setCell (p := ⟨w6.heap.size + 1 + 1, k, none⟩) (by simp <;> omega) (.bool true)
      obtain ⟨Y3, hY3⟩ : ∃ Y3, Y2.setCell ⟨w6.heap.size + 1 + 1, k, none⟩ (.bool true) = Y3 := ⟨_, rfl⟩
      rw [hY3] at q1 q2 q3 q4 q5 q6 qb
      have HY : Hid _ := hY3
      clear hY3 p1 p2 p3 p4 p5 p6 pb
      go_upto_region 32 with fail
      rw [HY.out]
      clear HY t1 f1 hI6 hK6 hT6
      have hlk : (padK k ks).length = k := padK_len _ _
      have hlt2 : (pad k ts).length = k := pad_len _ _
      have d1 : Rd Y3 (some ⟨w6.heap.size, 0, none⟩) (k + 1) ((is ++ [nm]).map .string) := q1.rd (by simp [hil]) (app_at hil (F1_is hil))
      have d2 : Rd Y3 (some ⟨w6.heap.size + 1, 0, none⟩) (k + 1) ((padK k ks ++ [ky]).map .string) := q2.rd (by simp [hlk]) (app_at hlk (F1_ks k ks))
      have d3 : Rd Y3 (some ⟨w6.heap.size + 1 + 1, 0, none⟩) (k + 1) ((pad k ts ++ [true]).map .bool) := q3.rd (by simp [hlt2]) (app_at hlt2 (F3_ts k ts))
      go_wp2_with fail
      refine (newSig_any _ _ _ (k + 1) (k + 1) (k + 1) (k + 1) (k + 1) (k + 1) (is ++ [nm]) (padK k ks ++ [ky]) (pad k ts ++ [true]) Y3 (by omega) d1 d2 d3).mono ?_
      rintro e w8 ⟨g2, its2, rfl, hSig2, hl2, hIts2, hN8⟩
      have j1 : covers nm its2 = cc0 := eq_of_iffs (covers_iff (by simp [hl2, hil]) hIts2) (by
        rw [HC0.out, cov_append _ _ _ _ _ (by rw [hlt2, hil]), ← hil, cov_pad]
        simp)
      have j2 : covers ot its2 = oo0 := eq_of_iffs (covers_iff (by simp [hl2, hil]) hIts2) (by
        rw [HO0.out, cov_append _ _ _ _ _ (by rw [hlt2, hil]), ← hil, cov_pad]
        simp)
      go_wp2_with fail
      refine (covers_any g2 its2 nm w8 hSig2).mono ?_
      rintro e w9 ⟨rfl, hN9⟩
      rw [j1]
      go_wp2_with fail
      refine (covers_any g2 its2 ot w9 (hSig2.below hN9)).mono ?_
      rintro e w10 ⟨rfl, hN10⟩
      rw [j2]
      have hb10 := below_step (below_step hN8 hN9) hN10
      have u1 := (q1.below hb10).other (w6.heap.size + 1 + 1) k (.bool false) (by omega)
      have u2 := (q2.below hb10).other (w6.heap.size + 1 + 1) k (.bool false) (by omega)
      have u3 := (q3.below hb10).set k (.bool false) (f' := fun j => if j = k then .bool false else F3 ts k j) (fun i _ => by by_cases e : i = k <;> simp [e])
      have t1 := (q3.below hb10).cell k hn1
      have f1 := (q3.below hb10).free k
      have u4 := (q4.below hb10).other (w6.heap.size + 1 + 1) k (.bool false) (by omega)
      have u5 := (q5.below hb10).other (w6.heap.size + 1 + 1) k (.bool false) (by omega)
      have u6 := (q6.below hb10).other (w6.heap.size + 1 + 1) k (.bool false) (by omega)
      have ub := (qb.trans (hb10.mono qb.size)).setCell (p := ⟨w6.heap.size + 1 + 1, k, none⟩) (by simp <;> omega) (.bool false)
      obtain ⟨Y4, hY4⟩ : ∃ Y4, w10.setCell ⟨w6.heap.size + 1 + 1, k, none⟩ (.bool false) = Y4 := ⟨_, rfl⟩
      rw [hY4] at u1 u2 u3 u4 u5 u6 ub
      have HY : Hid _ := hY4
      clear hY4 q1 q2 q3 q4 q5 q6 qb d1 d2 d3 hSig2 hl2 hIts2 hN8 hN9 hN10 hb10 j1 j2
      go_upto_region 36 with fail
      rw [HY.out]
      clear HY t1 f1
      have d1 : Rd Y4 (some ⟨w6.heap.size, 0, none⟩) (k + 1) ((is ++ [nm]).map .string) := u1.rd (by simp [hil]) (app_at hil (F1_is hil))
      have d2 : Rd Y4 (some ⟨w6.heap.size + 1, 0, none⟩) (k + 1) ((padK k ks ++ [ky]).map .string) := u2.rd (by simp [hlk]) (app_at hlk (F1_ks k ks))
      have d3 : Rd Y4 (some ⟨w6.heap.size + 1 + 1, 0, none⟩) (k + 1) ((pad k ts ++ [false]).map .bool) := u3.rd (by simp [hlt2]) (app_at hlt2 (F3_ts k ts))
      go_wp2_with fail
      refine (newSig_any _ _ _ (k + 1) (k + 1) (k + 1) (k + 1) (k + 1) (k + 1) (is ++ [nm]) (padK k ks ++ [ky]) (pad k ts ++ [false]) Y4 (by omega) d1 d2 d3).mono ?_
      rintro e w11 ⟨g3, its3, rfl, hSig3, hl3, hIts3, hN11⟩
      have j1 : covers nm its3 = true := (covers_iff (by simp [hl3, hil]) hIts3).2 ((cov_append _ _ _ _ _ (by rw [hlt2, hil])).2 (Or.inr ⟨rfl, rfl⟩))
      have j2 : covers ot its3 = oo0 := eq_of_iffs (covers_iff (by simp [hl3, hil]) hIts3) (by
        have hne : ¬ nm.toList = ot.toList := fun e => by rw [e] at heq; simp at heq
        rw [HO0.out, cov_append _ _ _ _ _ (by rw [hlt2, hil]), ← hil, cov_pad]
        simp [hne])
      go_wp2_with fail
      refine (covers_any g3 its3 nm w11 hSig3).mono ?_
      rintro e w12 ⟨rfl, hN12⟩
      rw [j1]
      go_wp2_with fail
      refine (covers_any g3 its3 ot w12 (hSig3.below hN12)).mono ?_
      rintro e w13 ⟨rfl, hN13⟩
      rw [j2]
      have hb13 := below_step (below_step hN11 hN12) hN13
      have d4 : Rd w13 (some ⟨w6.heap.size + 1 + 1 + 1, 0, none⟩) k (is.reverse.map .string) := (u4.below hb13).rd (by simp [hil]) (F4_is hil)
      have d5 : Rd w13 (some ⟨w6.heap.size + 1 + 1 + 1 + 1, 0, none⟩) k ((padK k ks).reverse.map .string) := (u5.below hb13).rd (by simp [hlk]) (F4_ks k ks)
      have d6 : Rd w13 (some ⟨w6.heap.size + 1 + 1 + 1 + 1 + 1, 0, none⟩) k ((pad k ts).reverse.map .bool) := (u6.below hb13).rd (by simp [hlt2]) (F6_ts k ts)
      have vb := ub.trans (hb13.mono ub.size)
      clear u1 u2 u3 u4 u5 u6 ub d1 d2 d3 hSig3 hl3 hIts3 hN11 hN12 hN13 hb13 j1 j2
      go_wp2_with fail
      refine (newSig_any _ _ _ k k k k k k is.reverse (padK k ks).reverse (pad k ts).reverse w13 (by omega) d4 d5 d6).mono ?_
      rintro e w14 ⟨g4, its4, rfl, hSig4, hl4, hIts4, hN14⟩
      have j1 : covers nm its4 = cc0 := eq_of_iffs (covers_iff (by simp [hl4, hil]) hIts4) (by
        rw [HC0.out, cov_reverse _ _ _ (by rw [hlt2, hil]), ← hil, cov_pad])
      go_wp2_with fail
      refine (covers_any g4 its4 nm w14 hSig4).mono ?_
      rintro e w15 ⟨rfl, hN15⟩
      rw [j1]
      have hend : Below w.heap.size w w15 := by
        have a1 := below_step hN14 hN15
        have a2 := vb.trans (a1.mono vb.size)
        exact hB6.trans (a2.mono hB6.size)
      clear vb d4 d5 d6 hSig4 hl4 hIts4 hN14 hN15 j1 HC0 HO0
      cases cc0
      all_goals
        cases oo0
        all_goals
          go_wp2_with fail
          go_ret
          exact ⟨rfl, hend⟩
end Go.Proofs.Qxb6604744a
