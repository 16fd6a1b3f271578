/- (*Record).appendDropped: whatever it finds, at most one option of type 40 is appended. -/
import Derived.Test.Qxb6604703aOption
import Derived.BigQuiet
import Derived.Deep.DeepCutAuto
import Derived.Deep.CutBlock
namespace Go.Proofs.Qxb6604703a
open Go.RowKit
set_option linter.unusedVariables false

/-- The Data Dropped option, as far as the reader looks: none, or its two bytes of head and so many more. -/
def Drp (dr : List Int) : Prop := dr = [] ∨ ∃ (k : Nat) (bl : List Int), 1 ≤ k ∧ k ≤ 253 ∧ bl.length = k ∧ dr = 40 :: ((k : Int) + 2) :: bl

/-- Of the blocks that were there, all but g and the row's are as they were. -/
structure Kp (g : Nat) (row : Option Nat) (w w' : World) : Prop where
  os : w'.os = w.os
  tape : w'.tape = w.tape
  output : w'.output = w.output
  size : w.heap.size ≤ w'.heap.size
  block : ∀ k, k < w.heap.size → k ≠ g → some k ≠ row → w'.heap[k]? = w.heap[k]?

/-- The blocks being written: a row of the call's own, all else as it was. -/
structure Blk (w wr : World) (v : Value) (bl : List Int) : Prop where
  own : Own wr v bl
  new : ∀ k, v.ownBlock = some k → w.heap.size ≤ k
  below : Below w.heap.size w wr

theorem Blk.drew {w wr : World} {v : Value} {bl : List Int} (h : Blk w wr v bl) : Blk w wr.drew v bl := ⟨h.own, h.new, h.below.drew⟩
theorem Blk.drewN {w wr : World} {v : Value} {bl : List Int} (h : Blk w wr v bl) : ∀ n, Blk w (wr.drewN n) v bl := fun n => ⟨h.own, h.new, ⟨h.below.os, h.below.tape, h.below.output, h.below.size, h.below.block⟩⟩

/-- One byte more. -/
theorem Blk.push {w wr w1 : World} {v : Value} {bl : List Int} {x : Int} {g1 cap1 : Nat} (h : Blk w wr v bl) (ho : w1.ownsRow 0 5 1 (.slice (some ⟨g1, 0, none⟩) (bl.length + 1) cap1) (bl.length + 1) (u8s bl ++ u8s [x]))
    (hg : (wr.alloc (.cells #[.int .u8 x] 5)).grownBy w1 v.ownBlock) (hat : v.ownBlock = some g1 ∨ g1 = wr.heap.size + 1) : Blk w w1 (.slice (some ⟨g1, 0, none⟩) (bl.length + 1) cap1) (bl ++ [x]) := by
  refine ⟨?_, ?_, ?_⟩
  · unfold Own
    have hl : (bl ++ [x]).length = bl.length + 1 := by simp
    have hx : u8s (bl ++ [x]) = u8s bl ++ u8s [x] := by simp [u8s]
    rw [hl, hx]
    exact ho
  · intro k hk
    have : g1 = k := by simpa [Value.ownBlock] using hk
    subst this
    rcases hat with e | e
    · exact h.new _ e
    · have := h.below.size
      omega
  · exact (h.below.alloc h.below.size _).grown hg (by have := h.below.size; simp; omega) h.new

theorem news_one (wr : World) (x : Int) : ∀ j u, (u8s [x])[j]? = some u → (wr.alloc (.cells #[.int .u8 x] 5)).cell? ((⟨wr.heap.size, 0, none⟩ : Addr).add j) = some u := by
  have hb := heap_new wr (.cells #[.int .u8 x] 5)
  have := World.news_of_block hb
  simpa using this

/-- What stands behind the store of the blocks into the record. -/
theorem dropEnd {w wc : World} {g : Nat} {st : Bool} {base : Int} {rv dv sv cv bv v : Value} {zs bl : List Int} {kpn : Nat} (hrow : w.heap[g]? = some (.cells (recCells st base rv dv sv cv (.slice none 0 0)) 58)) (hown : Own w bv zs) (hne : bv.ownBlock ≠ some g)
    (hB : Blk w wc v bl) (hk : kpn ≤ bl.length) : Own (wc.setCell ⟨g, 6, none⟩ v) bv zs ∧ (wc.setCell ⟨g, 6, none⟩ v).heap[g]? = some (.cells (recCells st base rv dv sv cv v) 58) ∧ Kp g bv.ownBlock w (wc.setCell ⟨g, 6, none⟩ v) := by
  have hgl : g < w.heap.size := (Array.getElem?_eq_some_iff.1 hrow).1
  refine ⟨?_, ?_, ?_⟩
  · refine Own.kept (row := some g) hown ⟨hB.below.os, hB.below.tape, hB.below.output, by simpa using hB.below.size, fun k hk hkg => ?_⟩ (Or.inr hne)
    rw [Below.heap_setCell _ _ _ _ (fun e => hkg (by rw [e]))]
    exact hB.below.block k hk
  · have := row_set ((hB.below.block g hgl).trans hrow) 6 v
    simpa using this
  · refine ⟨hB.below.os, hB.below.tape, hB.below.output, by simpa using hB.below.size, fun k hk hkg _ => ?_⟩
    rw [Below.heap_setCell _ _ _ _ hkg]
    exact hB.below.block k hk

theorem Blk.nil (w : World) : Blk w w (.slice none 0 0) [] := ⟨World.ownsRow_nil _ _ _ _, fun k h => by simp [Value.ownBlock] at h, Below.refl _ _⟩

set_option maxHeartbeats 6400000 in
set_option maxRecDepth 100000 in
theorem appendDropped_any (g : Nat) (st : Bool) (base : Int) (rv dv sv cv bv : Value) (zs : List Int) (ack room : Int) (w : World) (hrec : Rec w g st base rv dv sv cv (.slice none 0 0)) (hown : Own w bv zs) (hn : zs.length ≤ 536870912)
    (hne : bv.ownBlock ≠ some g) (hr0 : 0 ≤ room) (hr1 : room ≤ 9223372036854775807) :
    Calls Try.prog 34 #[.pointer (some ⟨g, 0, none⟩), bv, .int .u64 ack, .int .i64 room] w fun e w' => ∃ v dr, e = .returned v ∧ Own w' v (zs ++ dr) ∧ Drp dr ∧ (∃ bl, w'.heap[g]? = some (.cells (recCells st base rv dv sv cv bl) 58)) ∧ Kp g bv.ownBlock w w' ∧ (v.ownBlock = bv.ownBlock ∨ ∃ k, v.ownBlock = some k ∧ w.heap.size ≤ k) := by
  obtain ⟨i0, hi, hz0, hz1, hz2⟩ := info_parts info5
  obtain ⟨hrow, ⟨a, n, c, ds, rfl, hn1, hnc, hd, hda⟩, hsent⟩ := hrec
  have hgl : g < w.heap.size := (Array.getElem?_eq_some_iff.1 hrow).1
  have hc3 : w.cell? ⟨g, 3, none⟩ = some (.slice a n c) := row_cell hrow 3
  have hc6 : w.cell? ⟨g, 6, none⟩ = some (.slice none 0 0) := row_cell hrow 6
  go_enter Try.func34, Try.ntmps34
  go_upto_block 0 with fail
  go_cut [9] (fun i wx => ∃ kk : Int, -1 ≤ kk ∧ kk < n ∧ i = .int .i64 kk ∧ wx = w)
  case first =>
    go_wp2_with fail
    go_loop [9] (fun i => ∃ kk : Int, -1 ≤ kk ∧ kk < n ∧ i = .int .i64 kk) (fun i => (intOf i + 1).toNat)
    case atStart => exact ⟨_, by omega, by omega, rfl⟩
    case round =>
      obtain ⟨kk, hk0, hk1, rfl⟩ := hrel
      by_cases hge : 0 ≤ kk
      · obtain ⟨k, rfl⟩ := Int.eq_ofNat_of_zero_le hge
        obtain ⟨b3, o3, x, rfl, hx, _⟩ := rd_at hd k (by omega)
        by_cases hls : subI ack x < 0
        · have hlsb : decide (subI ack x < 0) = true := by simpa using hls
          go_wp2_with (go_at_call 36; refine (less_any ack x _).mono ?_; rintro e w1 ⟨rfl, hw⟩; subst w1)
          go_round
          case rel => exact ⟨_, by omega, by omega, rfl⟩
          case measure => simp [intOf] <;> omega
        · have hlsb : decide (subI ack x < 0) = false := by simpa using hls
          go_wp2_with (go_at_call 36; refine (less_any ack x _).mono ?_; rintro e w1 ⟨rfl, hw⟩; subst w1)
          go_meet
          case rel => exact ⟨_, hk0, hk1, rfl, rfl⟩
      · go_wp2_with fail
        go_meet
        case rel => exact ⟨_, hk0, hk1, rfl, rfl⟩
  case rest =>
    obtain ⟨kk, hk0, hk1, rfl, hw⟩ := hcut
    subst wc
    go_upto_region 4 with fail
    go_cut [10] (fun l wx => ∃ lim : Int, l = .int .i64 lim ∧ lim ≤ 253 ∧ wx = w)
    case first =>
      go_wp2_with fail
      all_goals
        go_meet
        case rel => exact ⟨_, rfl, by omega, rfl⟩
    case rest =>
      obtain ⟨lim, rfl, hlim, hw⟩ := hcut
      subst wc
      go_upto_block 2 with fail
      go_cut [9, 11, 12, 13] (fun _ bs kp _ wx => ∃ (bl : List Int) (kpn : Nat), kp = .int .i64 kpn ∧ kpn ≤ 253 ∧ kpn ≤ bl.length ∧ Blk w wx bs bl)
      case first =>
        go_wp2_with fail
        go_loopw [9, 11, 12, 13] (fun i bs kp nx wr => ∃ (kj : Int) (bl : List Int) (nxt : Int), -1 ≤ kj ∧ kj < n ∧ i = .int .i64 kj ∧ bl.length ≤ 253 ∧ kp = .int .i64 bl.length ∧ nx = .int .u64 nxt ∧ Blk w wr bs bl) (fun i _ _ _ _ => (intOf i + 1).toNat)
        case atStart => exact ⟨kk, [], ack, by omega, by omega, rfl, by simp, rfl, rfl, Blk.nil w⟩
        case round =>
          obtain ⟨kj, bl, nxt, hj0, hj1, rfl, hbl, rfl, rfl, hB⟩ := hrel
          by_cases hgj : 0 ≤ kj
          · obtain ⟨j, rfl⟩ := Int.eq_ofNat_of_zero_le hgj
            obtain ⟨b3, o3, x, rfl, hx, _⟩ := rd_at hd j (by omega)
            have hb3 : b3 < w.heap.size := hd.lt (by omega)
            have hxr : wr.cell? ⟨b3, o3 + j, none⟩ = some (.int .u64 x) := (hB.below.cell (p := ⟨b3, o3 + j, none⟩) hb3).trans hx
            have hc3r : wr.cell? ⟨g, 3, none⟩ = some (.slice (some ⟨b3, o3, none⟩) n c) := (hB.below.cell (p := ⟨g, 3, none⟩) hgl).trans hc3
            have hsb := subI_bd nxt x
            go_wp2_with (go_at_call 30; refine (sub_any nxt x _).mono ?_; rintro e w1 ⟨rfl, hw⟩; subst w1)
            go_loopw [11, 15] (fun bs gp wr => ∃ (bl1 : List Int) (gq : Int), gp = .int .i64 gq ∧ -140737488355328 ≤ gq ∧ gq ≤ 140737488355328 ∧ bl.length ≤ bl1.length ∧ 128 * (bl1.length : Int) + gq ≤ 32384 + 140737488355328 ∧ (bl1.length : Int) ≤ 1099511628288 ∧ Blk w wr bs bl1) (fun _ gp _ => (intOf gp + 140737488355328).toNat)
            case atStart => exact ⟨bl, _, rfl, by omega, by omega, Nat.le_refl _, by omega, by omega, hB⟩
            case round =>
              obtain ⟨bl1, gq, rfl, hg0, hg1, hll, hsum, hcap, hB1⟩ := hrel
              clear hB hxr hc3r
              by_cases hgp : 0 < gq
              · by_cases hmn : gq ≤ 128
                all_goals
                  go_wp2_with (first
                    | (go_at_call 37; refine (normalBlock_any _ _).mono ?_; rintro e w1 ⟨y, rfl, hw⟩; subst w1)
                    | (at_builtin; refine wpList_append_lies _ rfl (.tmp 63) (.tmp 67) 22 rfl 0 5 i0 (.int .u8 0) 1 1 Try.underlying22 hi hz0 hz1 hz2 rfl (by omega) _ bl1.length (u8s bl1) rfl (hB1.own.alloc _) ⟨wr.heap.size, 0, none⟩ 1 1 (u8s [y]) rfl rfl (news_one _ _) (u8s_one _) (by omega) (by unfold maxLen; omega) (by omega) (by omega) (wr.heap.size + 1) (by simp) ?_
                       intro g1 cap1 w1 hown1 hgr1 hat1 hlt1
                       have hBn := hB1.push hown1 hgr1 hat1
                       have hln : (bl1 ++ [y]).length = bl1.length + 1 := by simp
                       clear hown1 hgr1 hat1 hlt1))
                  go_roundw
                  case rel => exact ⟨bl1 ++ [y], _, rfl, by omega, by omega, by omega, by omega, by omega, hBn⟩
                  case measure => simp [intOf]; omega
              · go_upto_block 6 with fail
                go_cut [16] (fun nn wx => ∃ m : Nat, 1 ≤ m ∧ m ≤ 16 ∧ m ≤ j + 1 ∧ nn = .int .i64 m ∧ Blk w wx u11 bl1)
                case first =>
                  go_wp2_with fail
                  go_loopw [16] (fun nn wx => ∃ m : Nat, 1 ≤ m ∧ m ≤ 16 ∧ m ≤ j + 1 ∧ nn = .int .i64 m ∧ Blk w wx u11 bl1) (fun nn _ => 16 - (intOf nn).toNat)
                  case atStart => exact ⟨1, by omega, by omega, by omega, rfl, hB1⟩
                  case round =>
                    obtain ⟨m, hm1, hm2, hm3, rfl, hB2⟩ := hrel
                    clear hB1
                    have hc3q : wr.cell? ⟨g, 3, none⟩ = some (.slice (some ⟨b3, o3, none⟩) n c) := (hB2.below.cell (p := ⟨g, 3, none⟩) hgl).trans hc3
                    by_cases hm16 : m < 16
                    · have hd16 : decide ((m : Int) < 16) = true := by simp; omega
                      by_cases hmj : m ≤ j
                      · have hdj : decide ((0 : Int) ≤ (j : Int) - (m : Int)) = true := by simp; omega
                        obtain ⟨jm, hjm⟩ : ∃ jm : Nat, (j : Int) - (m : Int) = jm := ⟨j - m, by omega⟩
                        obtain ⟨b3', o3', z, e3, hz, _⟩ := rd_at hd jm (by omega)
                        cases e3
                        have hzr : wr.cell? ⟨b3, o3 + jm, none⟩ = some (.int .u64 z) := (hB2.below.cell (p := ⟨b3, o3 + jm, none⟩) hb3).trans hz
                        have hj0' : (0 : Int) ≤ (jm : Int) := by omega
                        have hj1' : (jm : Int) < (n : Int) := by omega
                        cases hzq : (z == addI x (-(m : Int)))
                        · go_wp2_with fail
                          go_quiet ((go_at_call 38; exact Calls.quiet_of_same (add_any _ _ _)))
                          go_wp2_with fail
                          go_meet
                          case rel => exact ⟨m, hm1, hm2, hm3, rfl, hB2.drewN _⟩
                        · go_wp2_with fail
                          go_quiet ((go_at_call 38; exact Calls.quiet_of_same (add_any _ _ _)))
                          go_wp2_with fail
                          go_roundw
                          case rel => exact ⟨m + 1, by omega, by omega, by omega, by go_num, hB2.drewN _⟩
                          case measure => simp [intOf]; omega
                      · have hdj : decide ((0 : Int) ≤ (j : Int) - (m : Int)) = false := by simp; omega
                        go_wp2_with fail
                        go_quiet (fail)
                        go_wp2_with fail
                        go_meet
                        case rel => exact ⟨m, hm1, hm2, hm3, rfl, hB2.drewN _⟩
                    · have hd16 : decide ((m : Int) < 16) = false := by simp; omega
                      go_wp2_with fail
                      go_quiet (fail)
                      go_wp2_with fail
                      go_meet
                      case rel => exact ⟨m, hm1, hm2, hm3, rfl, hB2.drewN _⟩
                case rest =>
                  obtain ⟨m, hm1, hm2, hm3, rfl, hB2⟩ := hcut
                  by_cases hbr : lim < (bl1.length : Int) + 1
                  · go_wp2_with (first
                      | (go_at_call 39; refine (dropBlock_any _ _).mono ?_; rintro e w1 ⟨y, rfl, hw⟩; subst w1)
                      | (at_builtin; refine wpList_append_lies _ rfl (.tmp 95) (.tmp 98) 22 rfl 0 5 i0 (.int .u8 0) 1 1 Try.underlying22 hi hz0 hz1 hz2 rfl (by omega) _ bl1.length (u8s bl1) rfl (hB2.own.alloc _) ⟨wc.heap.size, 0, none⟩ 1 1 (u8s [y]) rfl rfl (news_one _ _) (u8s_one _) (by omega) (by unfold maxLen; omega) (by omega) (by omega) (wc.heap.size + 1) (by simp) ?_
                         intro g1 cap1 w1 hown1 hgr1 hat1 hlt1
                         have hBn := hB2.push hown1 hgr1 hat1
                         have hln : (bl1 ++ [y]).length = bl1.length + 1 := by simp
                         clear hown1 hgr1 hat1 hlt1))
                    go_meet
                    case rel => exact ⟨bl1 ++ [y], bl.length, rfl, hbl, by omega, hBn⟩
                  · go_wp2_with (first
                      | (go_at_call 39; refine (dropBlock_any _ _).mono ?_; rintro e w1 ⟨y, rfl, hw⟩; subst w1)
                      | (at_builtin; refine wpList_append_lies _ rfl (.tmp 95) (.tmp 98) 22 rfl 0 5 i0 (.int .u8 0) 1 1 Try.underlying22 hi hz0 hz1 hz2 rfl (by omega) _ bl1.length (u8s bl1) rfl (hB2.own.alloc _) ⟨wc.heap.size, 0, none⟩ 1 1 (u8s [y]) rfl rfl (news_one _ _) (u8s_one _) (by omega) (by unfold maxLen; omega) (by omega) (by omega) (wc.heap.size + 1) (by simp) ?_
                         intro g1 cap1 w1 hown1 hgr1 hat1 hlt1
                         have hBn := hB2.push hown1 hgr1 hat1
                         have hln : (bl1 ++ [y]).length = bl1.length + 1 := by simp
                         clear hown1 hgr1 hat1 hlt1)
                      | (go_at_call 38; refine (add_any _ _ _).mono ?_; rintro e w2 ⟨rfl, hw⟩; subst w2))
                    go_roundw
                    case rel => exact ⟨_, bl1 ++ [y], _, by omega, by omega, rfl, by omega, by rw [hln]; go_num, rfl, hBn⟩
                    case measure => simp [intOf] <;> omega
          · go_wp2_with fail
            go_meet
            case rel => exact ⟨bl, bl.length, rfl, hbl, Nat.le_refl _, hB⟩
      case rest =>
        obtain ⟨bl, kpn, rfl, hk1, hk2, hB⟩ := hcut
        have hc6r : wc.cell? ⟨g, 6, none⟩ = some (.slice none 0 0) := (hB.below.cell (p := ⟨g, 6, none⟩) hgl).trans hc6
        have hf6r : wc.frozen? ⟨g, 6, none⟩ = false := (hB.below.frozen (p := ⟨g, 6, none⟩) hgl).trans (row_free hrow 6)
        have hgr : g < wc.heap.size := Nat.lt_of_lt_of_le hgl hB.below.size
        have HE : Hid _ := dropEnd hrow hown hne hB hk2
        have HB : Hid _ := hB
        rcases hB.own.2 with ⟨e11, h0⟩ | ⟨gb, capb, cur, e11, _, _, hcap1, hcap2, _, _⟩
        · subst e11
          have hk0' : kpn = 0 := by omega
          subst hk0'
          clear hB
          go_wp2_with fail
          go_ret
          obtain ⟨e1, e2, e3⟩ := HE.out
          exact ⟨bv, [], rfl, by rw [List.append_nil]; exact e1, Or.inl rfl, ⟨_, e2⟩, e3, Or.inl rfl⟩
        · subst e11
          have hgb : w.heap.size ≤ gb := hB.new gb rfl
          have hgbl : gb < wc.heap.size := hB.own.lt rfl
          cases kpn with
          | zero =>
            clear hB
            go_wp2_with fail
            go_ret
            obtain ⟨e1, e2, e3⟩ := HE.out
            exact ⟨bv, [], rfl, by rw [List.append_nil]; exact e1, Or.inl rfl, ⟨_, e2⟩, e3, Or.inl rfl⟩
          | succ kpn =>
            have hkc : ((kpn + 1 : Nat) : Int) ≤ (capb : Int) := by omega
            have hk00 : (0 : Int) ≤ ((kpn + 1 : Nat) : Int) := by omega
            have hq0 : (((kpn + 1 : Nat) : Int) == 0) = false := by simp; omega
            have hcl : ∀ j (h : j < (bl.take (kpn + 1)).length), (wc.setCell ⟨g, 6, none⟩ (.slice (some ⟨gb, 0, none⟩) bl.length capb)).cell? ⟨gb, 0 + j, none⟩ = some (.int .u8 (bl.take (kpn + 1))[j]) := by
              intro j h
              rw [World.cell?_setCell_other _ _ _ _ (by simp <;> omega), Nat.zero_add, hB.own.cell j (by simp at h; omega)]
              simp
            have HCL : Hid (∀ j (h : j < (bl.take (kpn + 1)).length), (wc.setCell ⟨g, 6, none⟩ (.slice (some ⟨gb, 0, none⟩) bl.length capb)).cell? ⟨gb, 0 + j, none⟩ = some (.int .u8 (bl.take (kpn + 1))[j])) := hcl
            clear hB hcl
            go_wp2_with fail
            refine (appendOption_any bv zs 40 false gb 0 (kpn + 1) capb (bl.take (kpn + 1)) _ HE.out.1 (by omega) (by omega) hk1 (by simp; omega) HCL.out (fun e => by have := hown.lt e; omega) (by simpa using hgbl)).mono ?_
            rintro e w2 ⟨g2, cap2, rfl, ho2, hg2, hat2⟩
            go_wp2_with fail
            go_ret
            obtain ⟨e1, e2, e3⟩ := HE.out
            refine ⟨_, _, rfl, ho2, Or.inr ⟨kpn + 1, bl.take (kpn + 1), by omega, hk1, by simp; omega, rfl⟩, ⟨_, (hg2.block g (by simpa using hgr) (fun e => hne e.symm)).trans e2⟩, ?_, ?_⟩
            · exact ⟨hg2.os.trans e3.os, hg2.tape.trans e3.tape, hg2.output.trans e3.output, Nat.le_trans e3.size hg2.size, fun k hk hkg hkr => (hg2.block k (Nat.lt_of_lt_of_le hk e3.size) hkr).trans (e3.block k hk hkg hkr)⟩
            · rcases hat2 with h | h
              · exact Or.inl h.symm
              · exact Or.inr ⟨g2, rfl, by have := e3.size; omega⟩
end Go.Proofs.Qxb6604703a
