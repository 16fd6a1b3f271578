/- zzBytes, zzStrBytes, zzKeyAt, zzTrAt; the clones in one form. -/
import Derived.Test.Qxb6604744aClone
namespace Go.Proofs.Qxb6604744a
open Go.RowKit
set_option linter.unusedVariables false

theorem rd_at {w : World} {a : Option Addr} {len : Nat} {α : Type} {f : α → Value} {zs : List α} (h : Rd w a len (zs.map f)) (k : Nat) (hk : k < len) : ∃ b off x, a = some ⟨b, off, none⟩ ∧ w.cell? ⟨b, off + k, none⟩ = some (f x) ∧ zs[k]? = some x := by
  obtain ⟨b, off, e, hc⟩ := h.cells (by omega)
  have hl : k < zs.length := by have := h.len_eq; simp at this; omega
  refine ⟨b, off, zs[k], e, ?_, List.getElem?_eq_getElem _⟩
  rw [hc k hk, List.getElem?_map, List.getElem?_eq_getElem hl]
  rfl

theorem Rd.none {w : World} {len : Nat} {xs : List Value} (h : Rd w Option.none len xs) : len = 0 := by
  by_cases hl : 0 < len
  · obtain ⟨_, _, e, _⟩ := h.cells hl
    cases e
  · omega
/-- A new slice: its block lies past those that were there. -/
structure New (w w' : World) (a : Option Addr) : Prop where
  ge : ∀ x, a = some x → w.heap.size ≤ x.block
  below : Below w.heap.size w w'
theorem rd_new {w w' : World} {n : Nat} {xs : List Value} {t : TypeId} (hn : xs.length = n) (h : w'.heap[w.heap.size]? = some (.cells xs.toArray t)) : Rd w' (some ⟨w.heap.size, 0, Option.none⟩) n xs := by
  refine ⟨hn, fun _ => ⟨_, 0, rfl, fun j hj => ?_⟩⟩
  rw [row_cell h]
  simp
theorem below_step {a b c : World} (h : Below a.heap.size a b) (k : Below b.heap.size b c) : Below a.heap.size a c := h.trans (k.mono h.size)

theorem cloneStrs (a : Option Addr) (len cap : Nat) (ss : List ByteArray) (w : World) (hr : Rd w a len (ss.map .string)) (hl : len ≤ 1048576) :
    Calls Try.prog 6 #[.slice a len cap] w fun e w' => ∃ a', e = .returned (.slice a' len len) ∧ Rd w' a' len (ss.map .string) ∧ New w w' a' := by
  refine (clone_strs a len cap _ w hr hl (fun k h => ⟨ss[k]'(by simpa using h), by simp⟩)).mono ?_
  rintro e w' (⟨rfl, rfl, rfl⟩ | ⟨_, rfl, hrow, hs, hb⟩)
  · obtain rfl := hr.none
    exact ⟨none, rfl, hr, ⟨fun x h => (by cases h), Below.refl _ _⟩⟩
  · exact ⟨_, rfl, rd_new hr.len_eq hrow, ⟨fun x h => by cases h; exact Nat.le_refl _, hb⟩⟩
theorem cloneBools (a : Option Addr) (len cap : Nat) (rs : List Bool) (w : World) (hr : Rd w a len (rs.map .bool)) (hl : len ≤ 1048576) :
    Calls Try.prog 7 #[.slice a len cap] w fun e w' => ∃ a', e = .returned (.slice a' len len) ∧ Rd w' a' len (rs.map .bool) ∧ New w w' a' := by
  refine (clone_bools a len cap _ w hr hl (fun k h => ⟨rs[k]'(by simpa using h), by simp⟩)).mono ?_
  rintro e w' (⟨rfl, rfl, rfl⟩ | ⟨_, rfl, hrow, hs, hb⟩)
  · obtain rfl := hr.none
    exact ⟨none, rfl, hr, ⟨fun x h => (by cases h), Below.refl _ _⟩⟩
  · exact ⟨_, rfl, rd_new hr.len_eq hrow, ⟨fun x h => by cases h; exact Nat.le_refl _, hb⟩⟩

/-- Some bool; true only if P; the world as it was. -/
def SomeBool (P : Prop) (w : World) (e : Ending) (w' : World) : Prop := ∃ r, e = .returned (.bool r) ∧ w' = w ∧ (r = true → P)
theorem SomeBool.no {P : Prop} {w : World} : SomeBool P w (.returned (.bool false)) w := ⟨_, rfl, rfl, fun h => by cases h⟩
theorem SomeBool.yes {P : Prop} {w : World} (r : Bool) (h : P) : SomeBool P w (.returned (.bool r)) w := ⟨_, rfl, rfl, fun _ => h⟩
/-- Some int; the world as it was. -/
def SomeInt (w : World) (e : Ending) (w' : World) : Prop := ∃ x, e = .returned (.int .i64 x) ∧ w' = w
theorem SomeInt.mk {w : World} (x : Int) : SomeInt w (.returned (.int .i64 x)) w := ⟨_, rfl, rfl⟩

set_option maxHeartbeats 800000 in
set_option maxRecDepth 100000 in
theorem strBytes_any (a : Option Addr) (len cap : Nat) (ss : List ByteArray) (w : World) (hr : Rd w a len (ss.map .string)) (hl : len ≤ 1048576) :
    Calls Try.prog 5 #[.slice a len cap] w fun e w' => SomeInt w e w' := by
  go_enter Try.func5, Try.ntmps5
  go_wp2
  go_loop [3, 4] (fun z i => ∃ (k : Nat) (q : Int), k ≤ len ∧ i = .int .i64 k ∧ z = .int .i64 q) (fun _ i => len - (intOf i).toNat)
  case atStart => exact ⟨0, _, by omega, rfl, rfl⟩
  case round =>
    obtain ⟨k, q, hk, rfl, rfl⟩ := hrel
    by_cases hlt : k < len
    · obtain ⟨b, o, x, rfl, hx, _⟩ := rd_at hr k hlt
      clear hr
      go_wp2
      go_round
      case rel => exact ⟨k + 1, _, by omega, by go_num, rfl⟩
      case measure => simp [intOf]; omega
    · clear hr
      go_wp2
      go_ret
      exact SomeInt.mk _

set_option maxHeartbeats 400000 in
theorem keyAt_any (a : Option Addr) (len cap : Nat) (ss : List ByteArray) (k : Nat) (w : World) (hr : Rd w a len (ss.map .string)) :
    Calls Try.prog 10 #[.slice a len cap, .int .i64 k] w fun e w' => e = .returned (.string (ss.getD k ByteArray.empty)) ∧ w' = w := by
  by_cases hlt : k < len
  · obtain ⟨b, o, x, rfl, hx, hs⟩ := rd_at hr k hlt
    have HS : Hid (ss.getD k ByteArray.empty = x) := by show ss.getD k ByteArray.empty = x; simp [List.getD, hs]
    clear hr
    go_enter Try.func10, Try.ntmps10
    go_wp2
    go_ret
    exact ⟨by rw [HS.out]; rfl, rfl⟩
  · have HS : Hid (ss.getD k ByteArray.empty = ByteArray.empty) := by
      have := hr.len_eq
      simp at this
      show ss.getD k ByteArray.empty = ByteArray.empty
      simp [List.getD, List.getElem?_eq_none (show ss.length ≤ k by omega)]
    clear hr
    go_enter Try.func10, Try.ntmps10
    go_wp2
    go_ret
    exact ⟨by rw [HS.out]; rfl, rfl⟩

set_option maxHeartbeats 400000 in
theorem trAt_any (a : Option Addr) (len cap : Nat) (rs : List Bool) (k : Nat) (w : World) (hr : Rd w a len (rs.map .bool)) :
    Calls Try.prog 11 #[.slice a len cap, .int .i64 k] w fun e w' => e = .returned (.bool (rs.getD k false)) ∧ w' = w := by
  by_cases hlt : k < len
  · obtain ⟨b, o, x, rfl, hx, hs⟩ := rd_at hr k hlt
    have HS : Hid (rs.getD k false = x) := by show rs.getD k false = x; simp [List.getD, hs]
    clear hr
    go_enter Try.func11, Try.ntmps11
    go_wp2
    go_ret
    exact ⟨by rw [HS.out]; rfl, rfl⟩
  · have HS : Hid (rs.getD k false = false) := by
      have := hr.len_eq
      simp at this
      show rs.getD k false = false
      simp [List.getD, List.getElem?_eq_none (show rs.length ≤ k by omega)]
    clear hr
    go_enter Try.func11, Try.ntmps11
    go_wp2
    go_ret
    exact ⟨by rw [HS.out]; rfl, rfl⟩

set_option maxHeartbeats 1600000 in
set_option maxRecDepth 100000 in
theorem bytes_any (a0 a1 a2 : Option Addr) (l0 c0 l1 c1 l2 c2 : Nat) (is ks : List ByteArray) (nm ot ky : ByteArray) (w : World) (h0 : Rd w a0 l0 (is.map .string)) (h1 : Rd w a1 l1 (ks.map .string)) :
    Calls Try.prog 4 #[.slice a0 l0 c0, .slice a1 l1 c1, .slice a2 l2 c2, .string nm, .string ot, .string ky] w fun e w' => SomeBool (l0 ≤ 1048576 ∧ l1 ≤ 1048576 ∧ l2 ≤ 1048576) w e w' := by
  by_cases m0 : l0 ≤ 1048576
  · go_enter Try.func4, Try.ntmps4
    go_wp2
    go_loop [13, 14] (fun z i => ∃ (k : Nat) (q : Int), k ≤ l0 ∧ i = .int .i64 k ∧ z = .int .i64 q) (fun _ i => l0 - (intOf i).toNat)
    case atStart => exact ⟨0, _, by omega, rfl, rfl⟩
    case round =>
      obtain ⟨k, q, hk, rfl, rfl⟩ := hrel
      by_cases hlt : k < l0
      · obtain ⟨b, o, x, rfl, hx, _⟩ := rd_at h0 k hlt
        clear h0 h1
        go_wp2
        all_goals first
          | (go_ret; exact SomeBool.no)
          | (go_round
             case rel => exact ⟨k + 1, _, by omega, by go_num, rfl⟩
             case measure => simp [intOf]; omega)
      · clear h0
        by_cases m1 : l1 ≤ 1048576
        · go_wp2
          all_goals first
            | (go_ret; exact SomeBool.no)
            | (go_loop [13, 15] (fun z i => ∃ (k : Nat) (q : Int), k ≤ l1 ∧ i = .int .i64 k ∧ z = .int .i64 q) (fun _ i => l1 - (intOf i).toNat)
               case atStart => exact ⟨0, _, by omega, rfl, rfl⟩
               case round =>
                 obtain ⟨k, q, hk, rfl, rfl⟩ := hrel
                 by_cases hlt1 : k < l1
                 · obtain ⟨b, o, x, rfl, hx, _⟩ := rd_at h1 k hlt1
                   clear h1
                   go_wp2
                   all_goals first
                     | (go_ret; exact SomeBool.no)
                     | (go_round
                        case rel => exact ⟨k + 1, _, by omega, by go_num, rfl⟩
                        case measure => simp [intOf]; omega)
                 · clear h1
                   by_cases m2 : l2 ≤ 1048576
                   · go_wp2
                     all_goals
                       go_ret
                       exact SomeBool.yes _ (by first | trivial | exact ⟨m0, m1, m2⟩)
                   · go_wp2
                     go_ret
                     exact SomeBool.no)
        · clear h1
          go_wp2
          go_ret
          exact SomeBool.no
  · go_enter Try.func4, Try.ntmps4
    go_wp2
    go_ret
    exact SomeBool.no
end Go.Proofs.Qxb6604744a
