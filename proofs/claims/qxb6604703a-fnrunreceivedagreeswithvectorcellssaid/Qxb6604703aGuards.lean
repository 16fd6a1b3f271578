/- The guards zzBytes and zzRecordOK: each answers some bool and leaves the world as it was. -/
import Derived.Test.Qxb6604703aClone
namespace Go.Proofs.Qxb6604703a
open Go.RowKit
set_option linter.unusedVariables false

/-- Some bool, and the world as it was. -/
def SomeBool (w : World) (e : Ending) (w' : World) : Prop := ∃ r, e = .returned (.bool r) ∧ w' = w
theorem SomeBool.mk {w : World} (r : Bool) : SomeBool w (.returned (.bool r)) w := ⟨r, rfl, rfl⟩

set_option maxHeartbeats 1600000 in
theorem bytes_any (a0 a3 a4 a5 a6 : Option Addr) (l0 c0 l3 c3 l4 c4 l5 c5 l6 c6 : Nat) (st : Bool) (base seq ack room : Int) (w : World) :
    Calls Try.prog 28 #[.slice a0 l0 c0, .bool st, .int .u64 base, .slice a3 l3 c3, .slice a4 l4 c4, .slice a5 l5 c5, .slice a6 l6 c6, .int .u64 seq, .int .u64 ack, .int .i64 room] w
      fun e w' => SomeBool w e w' := by
  go_enter Try.func28, Try.ntmps28
  go_wp2
  all_goals
    go_ret
    exact SomeBool.mk _

theorem rd_at {w : World} {a : Option Addr} {len : Nat} {α : Type} {f : α → Value} {zs : List α} (h : Rd w a len (zs.map f)) (k : Nat) (hk : k < len) : ∃ b off x, a = some ⟨b, off, none⟩ ∧ w.cell? ⟨b, off + k, none⟩ = some (f x) ∧ zs[k]? = some x := by
  obtain ⟨b, off, e, hc⟩ := h.cells (by omega)
  have hl : k < zs.length := by have := h.len_eq; simp at this; omega
  refine ⟨b, off, zs[k], e, ?_, List.getElem?_eq_getElem _⟩
  rw [hc k hk, List.getElem?_map, List.getElem?_eq_getElem hl]
  rfl

set_option maxHeartbeats 6400000 in
set_option maxRecDepth 100000 in
theorem recordOK_any (a2 a3 a4 a5 : Option Addr) (l2 c2 l3 c3 l4 c4 l5 c5 : Nat) (rs : List Bool) (ds ss ks : List Int) (st : Bool) (base : Int) (w : World) (hb : 0 ≤ base)
    (m2 : l2 ≤ 65536) (m3 : l3 ≤ 65536) (m4 : l4 ≤ 1024) (m5 : l5 ≤ 1024)
    (h2 : Rd w a2 l2 (rs.map .bool)) (h3 : Rd w a3 l3 (ds.map (.int .u64))) (h4 : Rd w a4 l4 (ss.map (.int .u64))) (h5 : Rd w a5 l5 (ks.map (.int .u64))) :
    Calls Try.prog 7 #[.bool st, .int .u64 base, .slice a2 l2 c2, .slice a3 l3 c3, .slice a4 l4 c4, .slice a5 l5 c5] w
      fun e w' => SomeBool w e w' := by
  by_cases hg1 : 281474976710655 < base
  · go_enter Try.func7, Try.ntmps7
    go_wp2
    go_ret
    exact SomeBool.mk _
  · by_cases hg2 : l4 = l5
    · subst hg2
      have hgt : decide (1024 < (l4 : Int)) = false := by simp; omega
      have hgb : decide (281474976710655 < base) = false := by simp; omega
      go_enter Try.func7, Try.ntmps7
      go_wp2
      go_loop [13] (fun i => ∃ k : Nat, k ≤ l4 ∧ i = .int .i64 k) (fun i => l4 - (intOf i).toNat)
      case atStart => exact ⟨0, by omega, rfl⟩
      case round =>
        obtain ⟨k, hk, rfl⟩ := hrel
        by_cases hlt : k < l4
        · obtain ⟨b4, o4, x, rfl, hx, _⟩ := rd_at h4 k hlt
          obtain ⟨b5, o5, y, rfl, hy, _⟩ := rd_at h5 k hlt
          clear h2 h3 h4 h5
          by_cases hc1 : 281474976710655 < x
          · go_wp2
            go_ret
            exact SomeBool.mk _
          · by_cases hc2 : 281474976710655 < y
            · go_wp2
              go_ret
              exact SomeBool.mk _
            · go_wp2
              go_round
              case rel => exact ⟨k + 1, by omega, by go_num⟩
              case measure => simp [intOf]; omega
        · clear h4 h5
          cases st
          · by_cases q2 : 0 < l2
            · go_wp2
              go_ret
              exact SomeBool.mk _
            · have e2 : decide (0 < (l2 : Int)) = false := by simp; omega
              by_cases q3 : 0 < l3
              · go_wp2
                go_ret
                exact SomeBool.mk _
              · have e3 : decide (0 < (l3 : Int)) = false := by simp; omega
                by_cases q4 : 0 < l4
                · go_wp2
                  go_ret
                  exact SomeBool.mk _
                · have e4 : decide (0 < (l4 : Int)) = false := by simp; omega
                  go_wp2
                  go_loop [14, 15] (fun p i => ∃ (k : Nat) (pv : Int), k ≤ l3 ∧ i = .int .i64 k ∧ p = .int .u64 pv) (fun _ i => l3 - (intOf i).toNat)
                  case atStart => exact ⟨0, 0, by omega, rfl, rfl⟩
                  case round =>
                    obtain ⟨j, pv, hj, rfl, rfl⟩ := hrel
                    by_cases hlt2 : j < l3
                    · exact absurd hlt2 (by omega)
                    · clear h2 h3
                      go_wp2
                      go_ret
                      exact SomeBool.mk _
          · go_wp2
            go_loop [14, 15] (fun p i => ∃ (k : Nat) (pv : Int), k ≤ l3 ∧ i = .int .i64 k ∧ p = .int .u64 pv) (fun _ i => l3 - (intOf i).toNat)
            case atStart => exact ⟨0, 0, by omega, rfl, rfl⟩
            case round =>
              obtain ⟨j, pv, hj, rfl, rfl⟩ := hrel
              by_cases hlt2 : j < l3
              · obtain ⟨b3, o3, x, rfl, hx, _⟩ := rd_at h3 j hlt2
                clear h3
                by_cases hc1 : 281474976710655 < x
                · go_wp2
                  go_ret
                  exact SomeBool.mk _
                · have hd1 : decide (281474976710655 < x) = false := by simp; omega
                  obtain ⟨p, hp⟩ := Int.eq_ofNat_of_zero_le (mask_bd (x - base)).1
                  have hpb : (p : Int) ≤ 281474976710655 := by rw [← hp]; exact (mask_bd (x - base)).2
                  by_cases hc2 : p < l2
                  · obtain ⟨b2, o2, y, rfl, hy, _⟩ := rd_at h2 p hc2
                    clear h2
                    cases y
                    all_goals
                      by_cases hj0 : 0 < j
                      all_goals
                        by_cases hc3 : (p : Int) ≤ pv
                        all_goals
                          go_wp2
                          first
                          | (go_ret; exact SomeBool.mk _)
                          | (go_round
                             case rel => exact ⟨j + 1, _, by omega, by go_num, rfl⟩
                             case measure => simp [intOf]; omega)
                  · clear h2
                    go_wp2
                    go_ret
                    exact SomeBool.mk _
              · clear h2 h3
                go_wp2
                go_ret
                exact SomeBool.mk _
    · have hq : ((l4 : Int) != (l5 : Int)) = true := by simp; omega
      go_enter Try.func7, Try.ntmps7
      go_wp2
      go_ret
      exact SomeBool.mk _
end Go.Proofs.Qxb6604703a
