/- sf.Params.Get, the closure of covers, IndexFunc, ContainsFunc, covers and Covers. -/
import Derived.Test.Qxb6604744aBase
import Derived.Laws.StructEq
namespace Go.Proofs.Qxb6604744a
open Go.RowKit
set_option linter.unusedVariables false

def trS : ByteArray := ⟨#[116, 114]⟩
def keyS : ByteArray := ⟨#[107, 101, 121]⟩

/-- A list of parameters: its keys. -/
def PS (w : World) (v : Value) (ks : List ByteArray) : Prop := ∃ a c, v = .slice a ks.length c ∧ ks.length ≤ 2 ∧ ∀ j (h : j < ks.length), ∃ gp t u, a = some ⟨gp, 0, none⟩ ∧ w.cell? ⟨gp, j * 2, none⟩ = some (.string ks[j]) ∧ w.cell? ⟨gp, j * 2 + 1, none⟩ = some (.iface t u)

/-- Is the key tr among them? -/
def hasTr (ks : List ByteArray) : Bool := ks.any (fun k => k.toList == trS.toList)

/-- Some value, whether it was found, and no block that was there has changed. -/
def Got (b : Bool) (w : World) (e : Ending) (w' : World) : Prop := ∃ x, e = .returned (.tuple #[x, .bool b]) ∧ Below w.heap.size w w'
theorem Got.mk {w w' : World} {b : Bool} (x : Value) (h : Below w.heap.size w w') : Got b w (.returned (.tuple #[x, .bool b])) w' := ⟨x, rfl, h⟩

set_option maxHeartbeats 800000 in
set_option maxRecDepth 100000 in
theorem get_any (v : Value) (ks : List ByteArray) (w : World) (h : PS w v ks) :
    Calls Try.prog 15 #[v, .string trS] w fun e w' => Got (hasTr ks) w e w' := by
  obtain ⟨a, c, rfl, hn, hc⟩ := h
  go_enter Try.func15, Try.ntmps15
  go_wp2
  go_loopw [10] (fun i wr => ∃ k : Nat, k ≤ ks.length ∧ i = .int .i64 k ∧ hasTr (ks.take k) = false ∧ Below w.heap.size w wr) (fun i _ => ks.length - (intOf i).toNat)
  case atStart => exact ⟨0, by omega, rfl, rfl, Below.refl _ _⟩
  case round =>
    obtain ⟨k, hk, rfl, hno, hbel⟩ := hrel
    by_cases hlt : k < ks.length
    · obtain ⟨gp, t, u, rfl, hx, hy⟩ := hc k hlt
      have hgl : gp < w.heap.size := World.block_lt_of_cell? w _ hx
      have hxr : wr.cell? ⟨gp, k * 2, none⟩ = some (.string ks[k]) := (hbel.cell (p := ⟨gp, k * 2, none⟩) hgl).trans hx
      have hyr : wr.cell? ⟨gp, k * 2 + 1, none⟩ = some (.iface t u) := (hbel.cell (p := ⟨gp, k * 2 + 1, none⟩) hgl).trans hy
      have HT : Hid ((ks[k].toList == trS.toList) = true → hasTr ks = true) := fun e => by
        show ks.any _ = true
        rw [List.any_eq_true]
        exact ⟨ks[k], List.getElem_mem _, e⟩
      have HN : Hid ((ks[k].toList == trS.toList) = false → hasTr (ks.take (k + 1)) = false) := fun e => by
        show hasTr (ks.take (k + 1)) = false
        rw [List.take_succ_eq_append_getElem hlt]
        unfold hasTr at hno ⊢
        rw [List.any_append, hno, List.any_cons, e]
        rfl
      generalize hs : ks[k] = s at hxr HT HN
      have HB : Hid _ := (hbel.alloc hbel.size (.cells #[.string s, .iface t u] 37))
      clear hs hx hy hc hbel
      cases he : (s.toList == trS.toList)
      · have HN2 := HN.out he
        go_wp2
        go_roundw
        case rel => exact ⟨k + 1, by omega, by go_num, HN2, HB.out⟩
        case measure => simp [intOf]; omega
      · have HT2 : Hid _ := HT.out he
        go_wp2
        go_ret2
        rw [HT2.out]
        exact Got.mk _ HB.out
    · clear hc
      have HK : Hid (hasTr ks = false) := by
        show hasTr ks = false
        rw [List.take_of_length_le (by omega)] at hno
        exact hno
      go_wp2
      go_ret2
      rw [HK.out]
      exact Got.mk _ hbel

theorem comp9 : (Try.prog.info? 9).map (·.comparable) = some true := by kernel_rfl
theorem run_eql_iface_str (w : World) (a b : ByteArray) : (binOp .eql 20 (.iface 9 (.string a)) (.iface 9 (.string b))).run Try.prog w = .ok (.bool (a.toList == b.toList)) w := by
  cases hi : Try.prog.info? 9 with
  | none => have := comp9; simp [hi] at this
  | some i =>
    have hcc : i.comparable = true := by have := comp9; simpa [hi] using this
    have h : ∀ d : Nat, (Op.equalIn (d + 2) 20 (.iface 9 (.string a)) (.iface 9 (.string b))).run Try.prog w = .ok (a.toList == b.toList) w := fun d => by
      rw [← beq_toListBytes]
      simp [Op.equalIn, run_underlying Try.underlying20, run_underlying Try.underlying9, typeInfo, hi, hcc]
    simp only [binOp]
    simp [Op.equal, Op.maxDepth, h 9998]

/-- A bool; no block that was there has changed. -/
def Yes (b : Bool) (w : World) (e : Ending) (w' : World) : Prop := e = .returned (.bool b) ∧ Below w.heap.size w w'

theorem PS.below {w w' : World} {v : Value} {ks : List ByteArray} (h : PS w v ks) (hb : Below w.heap.size w w') : PS w' v ks := by
  obtain ⟨a, c, e, hn, hc⟩ := h
  refine ⟨a, c, e, hn, fun j hj => ?_⟩
  obtain ⟨gp, t, u, e1, h1, h2⟩ := hc j hj
  have hgl : gp < w.heap.size := World.block_lt_of_cell? w _ h1
  exact ⟨gp, t, u, e1, (hb.cell (p := ⟨gp, j * 2, none⟩) hgl).trans h1, (hb.cell (p := ⟨gp, j * 2 + 1, none⟩) hgl).trans h2⟩

set_option maxHeartbeats 800000 in
set_option maxRecDepth 100000 in
theorem closure_any (id name : ByteArray) (pv : Value) (ks : List ByteArray) (b1 b2 : Nat) (w : World) (hp : PS w pv ks) (h1 : w.cell? ⟨b1, 0, none⟩ = some (.string name)) (h2 : w.cell? ⟨b2, 0, none⟩ = some (.bool false)) :
    Calls Try.prog 14 #[.agg #[.iface 9 (.string id), pv], .pointer (some ⟨b1, 0, none⟩), .pointer (some ⟨b2, 0, none⟩)] w fun e w' => Yes ((id.toList == name.toList) && !hasTr ks) w e w' := by
  have heq := run_eql_iface_str
  have hl1 : b1 < w.heap.size := World.block_lt_of_cell? w _ h1
  have hl2 : b2 < w.heap.size := World.block_lt_of_cell? w _ h2
  have hb0 : Below w.heap.size w (w.alloc (.cells #[.iface 9 (.string id), pv] 39)) := (Below.refl _ _).alloc (Nat.le_refl _) _
  have HG : Hid (Calls Try.prog 15 #[pv, .string trS] (w.alloc (.cells #[.iface 9 (.string id), pv] 39)) fun e w' => Got (hasTr ks) (w.alloc (.cells #[.iface 9 (.string id), pv] 39)) e w') := get_any pv ks _ (hp.below hb0)
  obtain ⟨a, c, rfl, _⟩ := hp
  go_enter Try.func14, Try.ntmps14
  go_wp2_with fail
  refine HG.out.mono ?_
  rintro e w1 ⟨x, rfl, hb1⟩
  have hbw : Below w.heap.size w w1 := below_step hb0 hb1
  have hc1 : w1.cell? ⟨b1, 0, none⟩ = some (.string name) := (hbw.cell (p := ⟨b1, 0, none⟩) hl1).trans h1
  have hc2 : w1.cell? ⟨b2, 0, none⟩ = some (.bool false) := (hbw.cell (p := ⟨b2, 0, none⟩) hl2).trans h2
  have hc3 : w1.cell? ⟨w.heap.size, 0, none⟩ = some (.iface 9 (.string id)) := by
    rw [hb1.cell (p := ⟨w.heap.size, 0, none⟩) (by simp), row_cell (heap_new w _)]
    rfl
  clear hb0 hb1 HG
  cases he : (id.toList == name.toList)
  all_goals
    cases ht : hasTr ks
    all_goals
      go_wp2_with fail
      go_ret
      exact ⟨by rw [he, ht]; rfl, hbw⟩

/-- The items of a signature: for each its value and its parameters' keys. -/
def Items (w : World) (v : Value) (its : List (ByteArray × List ByteArray)) : Prop := ∃ gi, v = .slice (some ⟨gi, 0, none⟩) its.length its.length ∧ its.length ≤ 1048577 ∧
  ∀ j (h : j < its.length), ∃ pv, w.cell? ⟨gi, j * 2, none⟩ = some (.iface 9 (.string its[j].1)) ∧ w.cell? ⟨gi, j * 2 + 1, none⟩ = some pv ∧ PS w pv its[j].2
def hit (name : ByteArray) (it : ByteArray × List ByteArray) : Bool := (it.1.toList == name.toList) && !hasTr it.2
def covers (name : ByteArray) (its : List (ByteArray × List ByteArray)) : Bool := its.any (hit name)

theorem Items.below {w w' : World} {v : Value} {its : List (ByteArray × List ByteArray)} (h : Items w v its) (hb : Below w.heap.size w w') : Items w' v its := by
  obtain ⟨gi, e, hn, hc⟩ := h
  refine ⟨gi, e, hn, fun j hj => ?_⟩
  obtain ⟨pv, h1, h2, h3⟩ := hc j hj
  have hgl : gi < w.heap.size := World.block_lt_of_cell? w _ h1
  exact ⟨pv, (hb.cell (p := ⟨gi, j * 2, none⟩) hgl).trans h1, (hb.cell (p := ⟨gi, j * 2 + 1, none⟩) hgl).trans h2, h3.below hb⟩

/-- An index that is not negative just if b. -/
def Idx (b : Bool) (w : World) (e : Ending) (w' : World) : Prop := ∃ x : Int, e = .returned (.int .i64 x) ∧ decide (0 ≤ x) = b ∧ Below w.heap.size w w'

set_option maxHeartbeats 800000 in
set_option maxRecDepth 100000 in
theorem indexFunc_any (v : Value) (its : List (ByteArray × List ByteArray)) (name : ByteArray) (b1 b2 : Nat) (w : World) (hi : Items w v its) (h1 : w.cell? ⟨b1, 0, none⟩ = some (.string name)) (h2 : w.cell? ⟨b2, 0, none⟩ = some (.bool false)) :
    Calls Try.prog 16 #[v, .func (.func 14) #[] #[.pointer (some ⟨b1, 0, none⟩), .pointer (some ⟨b2, 0, none⟩)]] w fun e w' => Idx (covers name its) w e w' := by
  obtain ⟨gi, rfl, hn, hc⟩ := hi
  have hl1 : b1 < w.heap.size := World.block_lt_of_cell? w _ h1
  have hl2 : b2 < w.heap.size := World.block_lt_of_cell? w _ h2
  go_enter Try.func16, Try.ntmps16
  go_wp2
  go_loopw [5, 8] (fun _ i wr => ∃ k : Nat, k ≤ its.length ∧ i = .int .i64 k ∧ covers name (its.take k) = false ∧ Below w.heap.size w wr) (fun _ i _ => its.length - (intOf i).toNat)
  case atStart => exact ⟨0, by omega, rfl, rfl, Below.refl _ _⟩
  case round =>
    obtain ⟨k, hk, rfl, hno, hbel⟩ := hrel
    by_cases hlt : k < its.length
    · obtain ⟨pv, hx, hy, hp⟩ := hc k hlt
      have hgl : gi < w.heap.size := World.block_lt_of_cell? w _ hx
      have hxr : wr.cell? ⟨gi, k * 2, none⟩ = some (.iface 9 (.string its[k].1)) := (hbel.cell (p := ⟨gi, k * 2, none⟩) hgl).trans hx
      have hyr : wr.cell? ⟨gi, k * 2 + 1, none⟩ = some pv := (hbel.cell (p := ⟨gi, k * 2 + 1, none⟩) hgl).trans hy
      have hc1 : wr.cell? ⟨b1, 0, none⟩ = some (.string name) := (hbel.cell (p := ⟨b1, 0, none⟩) hl1).trans h1
      have hc2 : wr.cell? ⟨b2, 0, none⟩ = some (.bool false) := (hbel.cell (p := ⟨b2, 0, none⟩) hl2).trans h2
      have HC : Hid (Calls Try.prog 14 #[.agg #[.iface 9 (.string its[k].1), pv], .pointer (some ⟨b1, 0, none⟩), .pointer (some ⟨b2, 0, none⟩)] wr fun e w' => Yes (hit name its[k]) wr e w') :=
        closure_any _ name pv its[k].2 b1 b2 wr (hp.below hbel) hc1 hc2
      have HT : Hid (hit name its[k] = true → covers name its = true) := fun e => by
        show its.any _ = true
        rw [List.any_eq_true]
        exact ⟨its[k], List.getElem_mem _, e⟩
      have HN : Hid (hit name its[k] = false → covers name (its.take (k + 1)) = false) := fun e => by
        show covers name (its.take (k + 1)) = false
        rw [List.take_succ_eq_append_getElem hlt]
        unfold covers at hno ⊢
        rw [List.any_append, hno, List.any_cons, e]
        rfl
      obtain ⟨a, c, rfl, _⟩ := hp
      have HB : Hid _ := hbel
      clear hx hy hc hbel hc1 hc2 hno
      generalize hit name its[k] = ht at HC HT HN
      cases ht
      · have HN2 : Hid (covers name (its.take (k + 1)) = false) := HN.out rfl
        clear HN HT
        go_wp2_with (go_at_call 14; refine (HC.out).mono ?_; rintro e w1 ⟨rfl, hb1⟩)
        go_roundw
        case rel => exact ⟨k + 1, by omega, by go_num, HN2.out, below_step HB.out hb1⟩
        case measure => simp [intOf]; omega
      · have HT2 : Hid (covers name its = true) := HT.out rfl
        clear HN HT
        go_wp2_with (go_at_call 14; refine (HC.out).mono ?_; rintro e w1 ⟨rfl, hb1⟩)
        go_ret
        exact ⟨_, rfl, by rw [HT2.out]; simp, below_step HB.out hb1⟩
    · clear hc
      have HK : Hid (covers name its = false) := by
        show covers name its = false
        rw [List.take_of_length_le (by omega)] at hno
        exact hno
      go_wp2
      go_ret
      exact ⟨_, rfl, by rw [HK.out]; simp, hbel⟩

set_option maxHeartbeats 400000 in
theorem containsFunc_any (v : Value) (its : List (ByteArray × List ByteArray)) (name : ByteArray) (b1 b2 : Nat) (w : World) (hi : Items w v its) (h1 : w.cell? ⟨b1, 0, none⟩ = some (.string name)) (h2 : w.cell? ⟨b2, 0, none⟩ = some (.bool false)) :
    Calls Try.prog 13 #[v, .func (.func 14) #[] #[.pointer (some ⟨b1, 0, none⟩), .pointer (some ⟨b2, 0, none⟩)]] w fun e w' => Yes (covers name its) w e w' := by
  have HI := indexFunc_any v its name b1 b2 w hi h1 h2
  obtain ⟨gi, rfl, _⟩ := hi
  go_enter Try.func13, Try.ntmps13
  go_wp2_with (go_at_call 16; refine HI.mono ?_; rintro e w1 ⟨x, rfl, hx, hb⟩)
  go_ret
  exact ⟨by rw [← hx]; rfl, hb⟩
end Go.Proofs.Qxb6604744a
