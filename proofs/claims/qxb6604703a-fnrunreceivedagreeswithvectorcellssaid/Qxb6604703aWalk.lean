/- The walk of FnRunReceivedAgreesWithVectorCells. -/
import Derived.Test.Qxb6604703aCells
namespace Go.Proofs.Qxb6604703a
open Go.RowKit
set_option linter.unusedVariables false

theorem Rd.none {w : World} {len : Nat} {xs : List Value} (h : Rd w Option.none len xs) : len = 0 := by
  by_cases hl : 0 < len
  · obtain ⟨_, _, e, _⟩ := h.cells hl
    cases e
  · omega
theorem Full.below {w w' : World} {v : Value} {zs : List Int} (h : Full w v zs) (hb : Below w.heap.size w w') : Full w' v zs := by
  rcases h with h | ⟨gb, e, h⟩
  · exact Or.inl h
  · exact Or.inr ⟨gb, e, (hb.block gb (Array.getElem?_eq_some_iff.1 h).1).trans h⟩

/-- A new slice: its block lies past those that were there. -/
structure New (w w' : World) (a : Option Addr) : Prop where
  ge : ∀ x, a = some x → w.heap.size ≤ x.block
  below : Below w.heap.size w w'

theorem cloneBytes (a : Option Addr) (len cap : Nat) (zs : List Int) (w : World) (hr : Rd w a len (u8s zs)) (hl : len ≤ 65536) :
    Calls Try.prog 8 #[.slice a len cap] w fun e w' => ∃ a', e = .returned (.slice a' len len) ∧ Full w' (.slice a' len len) zs ∧ New w w' a' := by
  have hz : zs.length = len := by have := hr.len_eq; simpa using this
  refine (clone_bytes a len cap _ w hr hl (fun k h => ⟨zs[k]'(by simpa using h), by simp⟩)).mono ?_
  rintro e w' (⟨rfl, rfl, rfl⟩ | ⟨_, rfl, hrow, hs, hb⟩)
  · obtain rfl := hr.none
    exact ⟨none, rfl, Or.inl ⟨rfl, by simpa using hz⟩, ⟨fun x h => (by cases h), Below.refl _ _⟩⟩
  · refine ⟨_, rfl, Or.inr ⟨w.heap.size, by rw [hz], hrow⟩, ⟨fun x h => by cases h; exact Nat.le_refl _, hb⟩⟩

theorem rd_new {w w' : World} {n : Nat} {xs : List Value} {t : TypeId} (hn : xs.length = n) (h : w'.heap[w.heap.size]? = some (.cells xs.toArray t)) : Rd w' (some ⟨w.heap.size, 0, Option.none⟩) n xs := by
  refine ⟨hn, fun _ => ⟨_, 0, rfl, fun j hj => ?_⟩⟩
  rw [row_cell h]
  simp

theorem cloneBools (a : Option Addr) (len cap : Nat) (rs : List Bool) (w : World) (hr : Rd w a len (rs.map .bool)) (hl : len ≤ 65536) :
    Calls Try.prog 9 #[.slice a len cap] w fun e w' => ∃ a', e = .returned (.slice a' len len) ∧ Rd w' a' len (rs.map .bool) ∧ New w w' a' := by
  refine (clone_bools a len cap _ w hr hl (fun k h => ⟨rs[k]'(by simpa using h), by simp⟩)).mono ?_
  rintro e w' (⟨rfl, rfl, rfl⟩ | ⟨_, rfl, hrow, hs, hb⟩)
  · obtain rfl := hr.none
    exact ⟨none, rfl, hr, ⟨fun x h => (by cases h), Below.refl _ _⟩⟩
  · exact ⟨_, rfl, rd_new hr.len_eq hrow, ⟨fun x h => by cases h; exact Nat.le_refl _, hb⟩⟩

theorem cloneU64 (a : Option Addr) (len cap : Nat) (ds : List Int) (w : World) (hr : Rd w a len (ds.map (.int .u64))) (hl : len ≤ 65536) :
    Calls Try.prog 10 #[.slice a len cap] w fun e w' => ∃ a', e = .returned (.slice a' len len) ∧ Rd w' a' len (ds.map (.int .u64)) ∧ New w w' a' := by
  refine (clone_u64 a len cap _ w hr hl (fun k h => ⟨ds[k]'(by simpa using h), by simp⟩)).mono ?_
  rintro e w' (⟨rfl, rfl, rfl⟩ | ⟨_, rfl, hrow, hs, hb⟩)
  · obtain rfl := hr.none
    exact ⟨none, rfl, hr, ⟨fun x h => (by cases h), Below.refl _ _⟩⟩
  · exact ⟨_, rfl, rd_new hr.len_eq hrow, ⟨fun x h => by cases h; exact Nat.le_refl _, hb⟩⟩

theorem below_step {a b c : World} (h : Below a.heap.size a b) (k : Below b.heap.size b c) : Below a.heap.size a c := h.trans (k.mono h.size)

theorem Enc.long {T cs : List Int} (h : Enc T cs) (hc : cs ≠ []) : 3 ≤ T.length := by
  cases h with
  | last _ => exact absurd rfl hc
  | opt h1 h2 h3 _ => simp; omega
theorem used_nn (cs : List Int) : 0 ≤ used cs := by
  unfold used
  induction cs with
  | nil => simp
  | cons c cs ih => simp only [List.map_cons, List.sum_cons]; omega
theorem cell_bits (got : Bool) (n : Nat) (h : n + 1 ≤ 64) : 0 ≤ cellI got (n + 1) ∧ cellI got (n + 1) < 256 ∧ cellI got (n + 1) / 64 = (if got then 0 else 3) ∧ cellI got (n + 1) % 64 = (n : Int) := by
  unfold cellI
  cases got <;> simp <;> omega
theorem drop_at {α : Type} {T L : List α} {pos : Nat} (h : T.drop pos = L) (i : Nat) (x : α) (hx : L[i]? = some x) : T[pos + i]? = some x := by
  rw [← List.getElem?_drop, h]; exact hx
theorem drop_len {α : Type} {T L : List α} {pos : Nat} (h : T.drop pos = L) (hp : pos ≤ T.length) : T.length = pos + L.length := by
  rw [← h, List.length_drop]; omega

/-- What the reader finds. -/
structure Found (w W : World) (v : Value) (ar : Option Addr) (lr : Nat) (rs : List Bool) (zs T : List Int) : Prop where
  own : Own W v (zs ++ T)
  rd : Rd W ar lr (rs.map .bool)
  below : Below w.heap.size w W

set_option maxHeartbeats 6400000 in
set_option maxRecDepth 100000 in
theorem walk (a0 a3 a4 a5 a6 : Option Addr) (l0 c0 l3 c3 l4 c4 l5 c5 l6 c6 : Nat) (zs : List Int) (rs : List Bool) (ds ss ks : List Int) (st : Bool) (base seq ack room : Int) (w : World) (hb : 0 ≤ base) (hr0 : -9223372036854775808 ≤ room) (hr1 : room ≤ 9223372036854775807)
    (h0 : Rd w a0 l0 (u8s zs)) (h3 : Rd w a3 l3 (rs.map .bool)) (h4 : Rd w a4 l4 (ds.map (.int .u64))) (h5 : Rd w a5 l5 (ss.map (.int .u64))) (h6 : Rd w a6 l6 (ks.map (.int .u64))) :
    Calls Try.prog 5 #[.slice a0 l0 c0, .bool st, .int .u64 base, .slice a3 l3 c3, .slice a4 l4 c4, .slice a5 l5 c5, .slice a6 l6 c6, .int .u64 seq, .int .u64 ack, .int .i64 room] w fun e w' => e = .returned (.bool true) ∧ Below w.heap.size w w' := by
  go_enter Try.func5, Try.ntmps5
  go_wp2_with fail
  refine (bytes_any a0 a3 a4 a5 a6 l0 c0 l3 c3 l4 c4 l5 c5 l6 c6 st base seq ack room w).mono ?_
  rintro e w1 ⟨r, rfl, hw⟩
  subst w1
  cases r
  · go_wp2_with fail
    go_ret
    exact ⟨rfl, Below.refl _ _⟩
  by_cases m0 : l0 ≤ 65536
  rotate_left
  · go_wp2_with fail
    go_ret
    exact ⟨rfl, Below.refl _ _⟩
  by_cases m3 : l3 ≤ 65536
  rotate_left
  · go_wp2_with fail
    go_ret
    exact ⟨rfl, Below.refl _ _⟩
  by_cases m4 : l4 ≤ 65536
  rotate_left
  · go_wp2_with fail
    go_ret
    exact ⟨rfl, Below.refl _ _⟩
  by_cases m5 : l5 ≤ 1024
  rotate_left
  · go_wp2_with fail
    go_ret
    exact ⟨rfl, Below.refl _ _⟩
  by_cases m6 : l6 ≤ 1024
  rotate_left
  · go_wp2_with fail
    go_ret
    exact ⟨rfl, Below.refl _ _⟩
  by_cases m7 : seq ≤ 281474976710655
  rotate_left
  · go_wp2_with fail
    go_ret
    exact ⟨rfl, Below.refl _ _⟩
  by_cases m8 : ack ≤ 281474976710655
  rotate_left
  · go_wp2_with fail
    go_ret
    exact ⟨rfl, Below.refl _ _⟩
  go_wp2_with fail
  refine (recordOK_any a3 a4 a5 a6 l3 c3 l4 c4 l5 c5 l6 c6 rs ds ss ks st base w hb m3 m4 m5 m6 h3 h4 h5 h6).mono ?_
  rintro e w1 ⟨r, rfl, hw⟩
  subst w1
  cases r
  · go_wp2_with fail
    go_ret
    exact ⟨rfl, Below.refl _ _⟩
  go_wp2_with fail
  refine (cloneBytes a0 l0 c0 zs w h0 m0).mono ?_
  rintro e w1 ⟨b0, rfl, hF, hN1⟩
  go_wp2_with fail
  refine (cloneBools a3 l3 c3 rs w1 (h3.below hN1.below) m3).mono ?_
  rintro e w2 ⟨b3, rfl, hR, hN2⟩
  have hB2 := below_step hN1.below hN2.below
  go_wp2_with fail
  refine (cloneU64 a4 l4 c4 ds w2 (h4.below hB2) m4).mono ?_
  rintro e w3 ⟨b4, rfl, hD, hN3⟩
  have hB3 := below_step hB2 hN3.below
  go_wp2_with fail
  refine (cloneU64 a5 l5 c5 ss w3 (h5.below hB3) (by omega)).mono ?_
  rintro e w4 ⟨b5, rfl, hS, hN4⟩
  have hB4 := below_step hB3 hN4.below
  go_wp2_with fail
  refine (cloneU64 a6 l6 c6 ks w4 (h6.below hB4) (by omega)).mono ?_
  rintro e w5 ⟨b6, rfl, hK, hN5⟩
  have hB5 := below_step hB4 hN5.below
  have hR5 : Rd w5 b3 l3 (rs.map .bool) := ((hR.below hN3.below).below hN4.below).below hN5.below
  go_wp2_with fail
  refine (cloneBools b3 l3 l3 rs w5 hR5 m3).mono ?_
  rintro e w6 ⟨b7, rfl, hR7, hN6⟩
  have hB6 := below_step hB5 hN6.below
  go_wp2_with fail
  refine (newRecord_any b4 b5 b6 l4 l4 l5 l5 l6 l6 b7 l3 l3 ds ss ks st base w6 m4 m5 m6 (((hD.below hN4.below).below hN5.below).below hN6.below) ((hS.below hN5.below).below hN6.below) (hK.below hN6.below)).mono ?_
  rintro e w7 ⟨rfl, dv, sv, hrec, hN7⟩
  have hB7 := below_step hB6 hN7
  have hF7 : Full w7 (.slice b0 l0 l0) zs := ((((((hF.below hN2.below).below hN3.below).below hN4.below).below hN5.below).below hN6.below).below hN7)
  have hR77 := hR7.below hN7
  have hR37 := (hR5.below hN6.below).below hN7
  have hzl : zs.length = l0 := by have := h0.len_eq; simpa using this
  go_wp2_with fail
  refine (appendOptions_any w6.heap.size st base b7 l3 l3 dv sv _ zs rs seq ack room w7 hrec hR77 m3 hF7 (by omega) hr0 hr1).mono ?_
  rintro e W ⟨v, T, rfl, hown, hsaid, hkp⟩
  have hfound : Found w W v b3 l3 rs zs T := by
    refine ⟨hown, ⟨hR37.len_eq, fun hl => ?_⟩, ?_⟩
    · obtain ⟨b, off, rfl, hc⟩ := hR37.cells hl
      have hlt : b < w6.heap.size := Nat.lt_of_lt_of_le (hR5.lt hl) hN6.below.size
      have hfar := hF7.far hR37 hl (fun x y => by simp) _ rfl
      refine ⟨b, off, rfl, fun j hj => ?_⟩
      rw [World.cell?_of_block (w := w7) (hkp.block b (Nat.lt_of_lt_of_le hlt hN7.size) (by omega) (fun e => hfar e.symm))]
      exact hc j hj
    · have hs1 := hN1.below.size
      have hs6 := hB6.size
      have hs7 := hB7.size
      refine ⟨hkp.os.trans hB7.os, hkp.tape.trans hB7.tape, hkp.output.trans hB7.output, Nat.le_trans hB7.size hkp.size, fun k hk => ?_⟩
      refine (hkp.block k (by omega) (by omega) (fun e => ?_)).trans (hB7.block k hk)
      cases b0 with
      | none => cases e
      | some x =>
        have hx := hN1.ge x rfl
        have : x.block = k := by simpa [Value.ownBlock] using e.symm
        omega
  clear hown hkp hR37 hR77 hF7 hB7 hrec hN7 hB6 hR7 hN6 hR5 hB5 hK hN5 hB4 hS hN4 hB3 hD hN3 hB2 hR hN2 hF hN1 h0 h3 h4 h5 h6 m7 m8
  subst hzl
  obtain ⟨dd, hdd⟩ := Int.eq_ofNat_of_zero_le (mask_bd (ack - base)).1
  have hdd2 : (dd : Int) ≤ 281474976710655 := by rw [← hdd]; exact (mask_bd (ack - base)).2
  have hdist : dist ack base = (dd : Int) := hdd
  rcases hsaid with ⟨rfl, hno⟩ | ⟨hyes, hTl, cs, hcs, hcl, hrep, henc⟩
  · have ho : Own W v zs := by have := hfound.own; rwa [List.append_nil] at this
    obtain ⟨av, cv, rfl⟩ := ho.shape
    have hcap : zs.length ≤ cv := by
      rcases ho.2 with ⟨e, h⟩ | ⟨_, _, _, e, _, _, hc, _⟩
      · simp at e; omega
      · cases e; exact hc
    have HF : Hid _ := hfound.below
    have hcase : st = false ∨ (st = true ∧ ¬ dd < l3) ∨ (st = true ∧ dd < l3 ∧ ¬ 3 ≤ room) := by
      unfold reachB at hno
      rw [hdist] at hno
      cases st <;> simp at hno ⊢
      by_cases h : dd < l3
      · exact Or.inr ⟨by omega, by have := hno (by omega); omega⟩
      · exact Or.inl (by omega)
    clear hfound hno ho hdist
    rcases hcase with rfl | ⟨rfl, h1⟩ | ⟨rfl, h1, h2⟩
    all_goals
      by_cases hcv : cv = zs.length
      all_goals
        go_wp2_with fail
        go_loop [27, 28, 29] (fun x y z => x = .int .i64 0 ∧ y = .int .i64 0 ∧ z = .int .i64 0) (fun _ _ _ => 0)
        case atStart => exact ⟨rfl, rfl, rfl⟩
        case round =>
          obtain ⟨rfl, rfl, rfl⟩ := hrel
          go_wp2_with fail
          go_ret
          refine ⟨?_, HF.out⟩
          first
          | rfl
          | (simp; done)
          | (simp; omega)
  · obtain ⟨hst, hdl, hr3⟩ : st = true ∧ dd < l3 ∧ 3 ≤ room := by
      unfold reachB at hyes
      rw [hdist] at hyes
      simp at hyes
      exact ⟨hyes.1.1, by omega, hyes.2⟩
    subst hst
    have hT3 := henc.long hcs
    rw [hdist] at hrep
    obtain ⟨ho, hrd, hbelW⟩ := hfound
    rcases ho.2 with ⟨_, h0⟩ | ⟨gv, capv, cur, ev, _, _, hcap1, hcap2, _, _⟩
    · rw [List.length_append] at h0; omega
    subst ev
    rw [List.length_append] at ho hcap1 ⊢
    obtain ⟨br, or, rfl⟩ : ∃ br or, b3 = some ⟨br, or, none⟩ := by
      obtain ⟨b, off, e, _⟩ := hrd.cells (by omega)
      exact ⟨b, off, e⟩
    have HT : Hid (∀ (j : Nat) (x : Int), T[j]? = some x → ∀ wr, Below W.heap.size W wr → wr.cell? ⟨gv, zs.length + j, none⟩ = some (.int .u8 x)) := by
      show ∀ (j : Nat) (x : Int), T[j]? = some x → ∀ wr, Below W.heap.size W wr → wr.cell? ⟨gv, zs.length + j, none⟩ = some (.int .u8 x)
      intro j x hx wr hbl
      have hj : j < T.length := (List.getElem?_eq_some_iff.1 hx).1
      rw [hbl.cell (p := ⟨gv, zs.length + j, none⟩) (ho.lt rfl), ho.cell (zs.length + j) (by simp; omega)]
      have e2 : T[j] = x := (List.getElem?_eq_some_iff.1 hx).2
      simp [e2]
    have HR : Hid (∀ (p : Nat) (x : Bool), rs[p]? = some x → ∀ wr, Below W.heap.size W wr → wr.cell? ⟨br, or + p, none⟩ = some (.bool x)) := by
      show ∀ (p : Nat) (x : Bool), rs[p]? = some x → ∀ wr, Below W.heap.size W wr → wr.cell? ⟨br, or + p, none⟩ = some (.bool x)
      intro p x hx wr hbl
      have hp : p < l3 := by
        have := (List.getElem?_eq_some_iff.1 hx).1
        have h2 := hrd.len_eq
        simp at h2
        omega
      obtain ⟨b', o', y, e, hc, hy⟩ := rd_at hrd p hp
      cases e
      rw [hx] at hy
      cases hy
      rw [hbl.cell (p := ⟨br, or + p, none⟩) (hrd.lt (by omega))]
      exact hc
    have hlr : rs.length = l3 := by
      have h2 := hrd.len_eq
      simpa using h2
    have HREP : Hid (Rep rs dd cs) := hrep
    have HENC : Hid _ := henc
    have HBW : Hid _ := hbelW
    have hcap3 : ¬ capv = zs.length := by omega
    have hcn : (0 : Nat) < cs.length := by
      cases cs with
      | nil => exact absurd rfl hcs
      | cons => simp
    clear ho hrd hbelW hrep henc hyes hdist hcap2
    go_wp2_with fail
    go_loopw [27, 28, 29] (fun of sn ps wr => ∃ (pos k : Nat), pos ≤ T.length ∧ k ≤ cs.length ∧ Enc (T.drop pos) (cs.drop k) ∧ of = .int .i64 (used (cs.take k)) ∧ sn = .int .i64 k ∧ ps = .int .i64 pos ∧ Below W.heap.size W wr) (fun _ _ ps _ => T.length - (intOf ps).toNat)
    case atStart => exact ⟨0, 0, by omega, by omega, HENC.out, rfl, rfl, rfl, Below.refl _ _⟩
    case round =>
      obtain ⟨pos, k, hp, hk, he, rfl, rfl, rfl, hbel⟩ := hrel
      generalize hTd : T.drop pos = Td at he
      generalize hcd : cs.drop k = cd at he
      cases he with
      | last hdr =>
        have hkl : k = cs.length := by
          have := List.drop_eq_nil_iff.1 hcd
          omega
        rcases hdr with rfl | ⟨m, bl, hm1, hm2, hbl, rfl⟩
        · have hpl : pos = T.length := by
            have := List.drop_eq_nil_iff.1 hTd
            omega
          have HB : Hid _ := HBW.out.trans (hbel.mono HBW.out.size)
          have hk0 : 0 < k := by omega
          have hpl' : T.length ≤ pos := by omega
          clear hbel hTd hcd hpl hkl
          go_wp2_with fail
          go_ret
          exact ⟨rfl, HB.out⟩
        · have hlen : T.length = pos + (m + 2) := by
            have := drop_len hTd hp
            simp [hbl] at this
            omega
          have hT0 : wr.cell? ⟨gv, zs.length + pos, none⟩ = some (.int .u8 40) := HT.out pos 40 (drop_at hTd 0 40 rfl) wr hbel
          have hT1 : wr.cell? ⟨gv, zs.length + (pos + 1), none⟩ = some (.int .u8 ((m : Int) + 2)) := HT.out (pos + 1) _ (drop_at hTd 1 _ rfl) wr hbel
          have HB : Hid _ := hbel
          have HCD : Hid _ := hcd
          have hlen1 : pos + (m + 2) ≤ T.length := by omega
          have HLEN : Hid (T.length = pos + (m + 2)) := hlen
          clear hTd hcd hbel hkl hlen
          go_wp2_with fail
          go_roundw
          case rel => exact ⟨pos + (m + 2), k, by omega, hk, by rw [List.drop_of_length_le (by rw [HLEN.out]; exact Nat.le_refl _), HCD.out]; exact Enc.last (Or.inl rfl), rfl, rfl, by go_num, HB.out⟩
          case measure => simp [intOf]; omega
      | @opt m ch T' cs' hm1 hm2 hch he' =>
        have HLEN : Hid (T.length = pos + (m + 2) + T'.length) := by
          have := drop_len hTd hp
          simp [hch] at this
          show T.length = pos + (m + 2) + T'.length
          omega
        have HCL : Hid (cs.length = k + m + cs'.length) := by
          have := drop_len hcd hk
          simp [hch] at this
          show cs.length = k + m + cs'.length
          omega
        have hlen1 : pos + (m + 2) ≤ T.length := by have := HLEN.out; omega
        have hcl1 : k + m ≤ cs.length := by have := HCL.out; omega
        have hT0 : wr.cell? ⟨gv, zs.length + pos, none⟩ = some (.int .u8 38) := HT.out pos 38 (drop_at hTd 0 38 rfl) wr hbel
        have hT1 : wr.cell? ⟨gv, zs.length + (pos + 1), none⟩ = some (.int .u8 ((m : Int) + 2)) := HT.out (pos + 1) _ (drop_at hTd 1 _ rfl) wr hbel
        have HCH : Hid (∀ (i : Nat) (h : k + i < cs.length), i < m → T[pos + (2 + i)]? = some cs[k + i]) := by
          show ∀ (i : Nat) (h : k + i < cs.length), i < m → T[pos + (2 + i)]? = some cs[k + i]
          intro i h him
          refine drop_at hTd (2 + i) _ ?_
          have e1 : cs[k + i]? = some cs[k + i] := List.getElem?_eq_getElem h
          have e2 : cs[k + i]? = (ch ++ cs')[i]? := by rw [← hcd, List.getElem?_drop]
          have e3 : (ch ++ cs')[i]? = ch[i]? := List.getElem?_append_left (by omega)
          have e4 : (38 :: ((m : Int) + 2) :: (ch ++ T'))[2 + i]? = ch[i]? := by
            rw [show 2 + i = i + 1 + 1 by omega]
            simp only [List.getElem?_cons_succ]
            exact List.getElem?_append_left (by omega)
          rw [e4, ← e3, ← e2]
          exact e1
        have HNEXT : Hid (Enc (T.drop (pos + (m + 2))) (cs.drop (k + m))) := by
          show Enc (T.drop (pos + (m + 2))) (cs.drop (k + m))
          have e1 : T.drop (pos + (m + 2)) = T' := by
            rw [← List.drop_drop, hTd, show m + 2 = m + 1 + 1 by omega]
            simp only [List.drop_succ_cons]
            rw [List.drop_append_of_le_length (by omega), List.drop_of_length_le (by omega)]
            rfl
          have e2 : cs.drop (k + m) = cs' := by
            rw [← List.drop_drop, hcd, List.drop_append_of_le_length (by omega), List.drop_of_length_le (by omega)]
            rfl
          rw [e1, e2]
          exact he'
        have HB : Hid (Below W.heap.size W wr) := hbel
        clear hTd hcd hbel he' hch
        go_wp2_with fail
        go_loopw [27, 28, 32] (fun of sn js wr => ∃ i : Nat, i ≤ m ∧ of = .int .i64 (used (cs.take (k + i))) ∧ sn = .int .i64 ((k + i : Nat) : Int) ∧ js = .int .i64 ((pos + (2 + i) : Nat) : Int) ∧ Below W.heap.size W wr) (fun _ _ js _ => pos + (2 + m) - (intOf js).toNat)
        case atStart => exact ⟨0, by omega, by simp, by simp, by go_num, HB.out⟩
        case round =>
          obtain ⟨i, him, rfl, rfl, rfl, hbel⟩ := hrel
          by_cases hi : i < m
          · obtain ⟨got, n, hcell, hn1, hn2, hn3, hall⟩ := HREP.out (k + i) (by omega)
            have hTc : wr.cell? ⟨gv, zs.length + (pos + (2 + i)), none⟩ = some (.int .u8 (cellI got n)) := HT.out _ _ (by rw [← hcell]; exact HCH.out i (by omega) hi) wr hbel
            have HUS : Hid (used (cs.take (k + i + 1)) = used (cs.take (k + i)) + n) := used_take cs (k + i) (by omega) got n hcell hn1 hn2
            have hus0 : 0 ≤ used (cs.take (k + i)) := used_nn _
            have hJ1 : pos + (2 + i) < pos + (m + 2) := by omega
            have hK1 : k + i < cs.length := by omega
            generalize hus : used (List.take (k + i) cs) = us at hn3 hall HUS hus0 ⊢
            generalize hJ : pos + (2 + i) = J at hTc hJ1 ⊢
            generalize hK : k + i = K at HUS hK1 ⊢
            have HJ : Hid (pos + (2 + i) = J) := hJ
            have HK : Hid (k + i = K) := hK
            clear hus hJ hK
            obtain ⟨n', rfl⟩ : ∃ n', n = n' + 1 := ⟨n - 1, by omega⟩
            obtain ⟨hc0, hc1, hc2, hc3⟩ := cell_bits got n' (by omega)
            have HUS2 : Hid (used (cs.take (K + 1)) = us + ((n' : Int) + 1)) := by
              show used (cs.take (K + 1)) = us + ((n' : Int) + 1)
              rw [HUS.out]; push_cast; rfl
            generalize hce : cellI got (n' + 1) = c at hTc hc0 hc1 hc2 hc3
            clear hce hcell HUS
            have HBE : Hid (Below W.heap.size W wr) := hbel
            have hsz : W.heap.size ≤ wr.heap.size := hbel.size
            have hn3' : (n' : Int) ≤ dd - us := by push_cast at hn3; omega
            have HALL : Hid (∀ q : Nat, q < n' + 1 → rs[((dd : Int) - us - q).toNat]? = some got) := hall
            have HRV : Hid (∀ (x y : Int) (w0 : World), Calls Try.prog 29 #[.agg #[.int .u64 x, .int .i64 y, .int .u8 (if got then 0 else 3)]] w0 fun e w' => e = .returned (.bool got) ∧ Below w0.heap.size w0 w') := fun x y w0 => received_any x y got w0
            clear hall hn3 hbel
            cases got
            all_goals
              go_wp2_with (go_at_call 29; refine (HRV.out _ _ _).mono ?_; rintro e wv ⟨rfl, hbv⟩)
              have HBV : Hid (Below W.heap.size W wv) := (HBE.out.alloc hsz _).trans (hbv.mono (by simp; omega))
              clear hbv
              go_loop [38] (fun qs => ∃ q : Nat, q ≤ n' + 1 ∧ qs = .int .i64 q) (fun qs => n' + 1 - (intOf qs).toNat)
              case atStart => exact ⟨0, by omega, rfl⟩
              case round =>
                obtain ⟨q, hq, rfl⟩ := hrel
                by_cases hqn : q < n' + 1
                · obtain ⟨P, hP⟩ := Int.eq_ofNat_of_zero_le (show (0 : Int) ≤ (dd : Int) - us - q by omega)
                  have hPx := HALL.out q hqn
                  rw [hP, Int.toNat_natCast] at hPx
                  have hPl : P < l3 := by rw [← hlr]; exact (List.getElem?_eq_some_iff.1 hPx).1
                  have hPc := HR.out P _ hPx wv HBV.out
                  clear hPx
                  go_wp2_with fail
                  go_round
                  case rel => exact ⟨q + 1, by omega, by go_num⟩
                  case measure => simp [intOf]; omega
                · go_wp2_with fail
                  go_roundw
                  case rel => exact ⟨i + 1, by omega, by rw [← Nat.add_assoc, HK.out, HUS2.out], by rw [← Nat.add_assoc, HK.out]; go_num, by rw [← Nat.add_assoc, ← Nat.add_assoc, Nat.add_assoc pos, HJ.out]; go_num, HBV.out⟩
                  case measure => have := HJ.out; simp [intOf]; omega
          · obtain rfl : i = m := by omega
            have HBE : Hid (Below W.heap.size W wr) := hbel
            clear hbel
            go_wp2_with fail
            go_roundw
            case rel => exact ⟨pos + (i + 2), k + i, hlen1, hcl1, HNEXT.out, rfl, rfl, by go_num, HBE.out⟩
            case measure => simp [intOf]; omega
end Go.Proofs.Qxb6604703a
