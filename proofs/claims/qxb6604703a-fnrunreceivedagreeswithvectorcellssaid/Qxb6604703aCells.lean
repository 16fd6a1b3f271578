/- (*Record).AppendOptions, the way that writes cells. -/
import Derived.Test.Qxb6604703aOptions
namespace Go.Proofs.Qxb6604703a
open Go.RowKit
set_option linter.unusedVariables false

theorem optB_one (n : Nat) (h : 1 ≤ n) (room : Int) (hr : optB n ≤ room) : 3 ≤ room := by unfold optB at hr; omega
theorem optB_nn (n : Nat) : 0 ≤ optB n := by unfold optB; omega
theorem optB_1 : optB 1 = 3 := rfl
theorem Own.shape {w : World} {v : Value} {zs : List Int} (h : Own w v zs) : ∃ a c, v = .slice a zs.length c := by
  rcases h.2 with ⟨rfl, e⟩ | ⟨g, c, _, e, _⟩
  · exact ⟨none, 0, by rw [e]⟩
  · exact ⟨_, c, e⟩

theorem Own.type {w : World} {v : Value} {zs : List Int} (h : Own w v zs) {k : Nat} (hk : v.ownBlock = some k) : ∃ cur, w.heap[k]? = some (.cells cur 5) := by
  rcases h.2 with ⟨rfl, e⟩ | ⟨g, c, cur, rfl, _, hb, _⟩
  · cases hk
  · have : g = k := by simpa [Value.ownBlock] using hk
    subst this
    exact ⟨_, hb⟩
theorem Kp.grown {g : Nat} {row row' : Option Nat} {a b c : World} (h : Kp g row a b) (k : b.grownBy c row') (hr : ∀ j, row' = some j → row = some j ∨ a.heap.size ≤ j) : Kp g row a c :=
  ⟨k.os.trans h.os, k.tape.trans h.tape, k.output.trans h.output, Nat.le_trans h.size k.size, fun i hi hg hne => by
    refine (k.block i (Nat.lt_of_lt_of_le hi h.size) (fun e => ?_)).trans (h.block i hi hg hne)
    rcases hr i e.symm with h1 | h1
    · exact hne h1.symm
    · omega⟩
theorem Kp.trans {g : Nat} {row row' : Option Nat} {a b c : World} (h : Kp g row a b) (k : Kp g row' b c) (hr : ∀ j, row' = some j → row = some j ∨ a.heap.size ≤ j) : Kp g row a c :=
  ⟨k.os.trans h.os, k.tape.trans h.tape, k.output.trans h.output, Nat.le_trans h.size k.size, fun i hi hg hne => by
    refine (k.block i (Nat.lt_of_lt_of_le hi h.size) hg (fun e => ?_)).trans (h.block i hi hg hne)
    rcases hr i e.symm with h1 | h1
    · exact hne h1.symm
    · omega⟩
theorem DropOK.kp {w w' : World} {g : Nat} {dv bv : Value} {zs : List Int} (h : DropOK w g dv) (hk : Kp g bv.ownBlock w w') (hf : Full w bv zs) : DropOK w' g dv := by
  obtain ⟨a, n, c, ds, rfl, hn, hc, hd, hda⟩ := h
  refine ⟨a, n, c, ds, rfl, hn, hc, ⟨hd.len_eq, fun hl => ?_⟩, hda⟩
  obtain ⟨b, off, rfl, hcs⟩ := hd.cells hl
  have hfar := hf.far hd hl (fun x y => by simp) _ rfl
  refine ⟨b, off, rfl, fun j hj => ?_⟩
  rw [World.cell?_of_block (w := w) (hk.block b (hd.lt hl) (hda _ rfl) (fun e => hfar e.symm))]
  exact hcs j hj
theorem SentOK.kp {w w' : World} {g : Nat} {row : Option Nat} {sv : Value} {cc : Array Value} (h : SentOK w sv) (hk : Kp g row w w') (hg : w.heap[g]? = some (.cells cc 58)) (hr : ∀ k, row = some k → ∃ cur, w.heap[k]? = some (.cells cur 5)) : SentOK w' sv := by
  obtain ⟨n, hn, h | ⟨gs, arr, e, hb, ha⟩⟩ := h
  · exact ⟨n, hn, Or.inl h⟩
  · refine ⟨n, hn, Or.inr ⟨gs, arr, e, ?_, ha⟩⟩
    rw [hk.block gs (Array.getElem?_eq_some_iff.1 hb).1 ?_ ?_]
    · exact hb
    · rintro rfl
      rw [hb] at hg
      simp at hg
    · intro e2
      obtain ⟨cur, hcur⟩ := hr gs e2.symm
      rw [hb] at hcur
      simp at hcur

/-- What stands behind the store of the cells into the record. -/
theorem cellsEnd {w wc : World} {g : Nat} {st : Bool} {base : Int} {rv dv sv bv v : Value} {zs bl : List Int} (hrow : w.heap[g]? = some (.cells (recCells st base rv dv sv (.slice none 0 0) (.slice none 0 0)) 58)) (hown : Own w bv zs) (hne : bv.ownBlock ≠ some g)
    (hB : Blk w wc v bl) : Own (wc.setCell ⟨g, 5, none⟩ v) bv zs ∧ (wc.setCell ⟨g, 5, none⟩ v).heap[g]? = some (.cells (recCells st base rv dv sv v (.slice none 0 0)) 58) ∧ Kp g bv.ownBlock w (wc.setCell ⟨g, 5, none⟩ v) := by
  have hgl : g < w.heap.size := (Array.getElem?_eq_some_iff.1 hrow).1
  refine ⟨?_, ?_, ?_⟩
  · refine Own.kept (row := some g) hown ⟨hB.below.os, hB.below.tape, hB.below.output, by simpa using hB.below.size, fun k hk hkg => ?_⟩ (Or.inr hne)
    rw [Below.heap_setCell _ _ _ _ (fun e => hkg (by rw [e]))]
    exact hB.below.block k hk
  · have := row_set ((hB.below.block g hgl).trans hrow) 5 v
    simpa using this
  · refine ⟨hB.below.os, hB.below.tape, hB.below.output, by simpa using hB.below.size, fun k hk hkg _ => ?_⟩
    rw [Below.heap_setCell _ _ _ _ hkg]
    exact hB.below.block k hk
theorem Kp.set {g : Nat} {row : Option Nat} {a b : World} (h : Kp g row a b) (j : Nat) (v : Value) : Kp g row a (b.setCell ⟨g, j, none⟩ v) :=
  ⟨h.os, h.tape, h.output, by simpa using h.size, fun k hk hg hr => by rw [Below.heap_setCell _ _ _ _ hg]; exact h.block k hk hg hr⟩
theorem Kp.alloc {g : Nat} {row : Option Nat} {a b : World} (h : Kp g row a b) (o : Obj) : Kp g row a (b.alloc o) :=
  h.grown (World.grownBy_alloc b o none) (fun j h => by cases h)
theorem news_two (wr : World) (x y : Int) : ∀ j u, [Value.int .u64 x, Value.int .u64 y][j]? = some u → (wr.alloc (.cells #[.int .u64 x, .int .u64 y] 60)).cell? ((⟨wr.heap.size, 0, none⟩ : Addr).add j) = some u := by
  have hb := heap_new wr (.cells #[.int .u64 x, .int .u64 y] 60)
  have := World.news_of_block hb
  simpa using this
/-- The bytes so far, in loop 3. -/
def Nxt (W1 w' : World) (v bv : Value) (zs P : List Int) : Prop := Own w' v (zs ++ P) ∧ W1.grownBy w' bv.ownBlock ∧ (v.ownBlock = bv.ownBlock ∨ ∃ k, v.ownBlock = some k ∧ W1.heap.size ≤ k)
theorem slice_of {w : World} {b : Nat} {e : TypeId} {size : Nat} {v : Value} {n : Nat} {xs : List Value} (h : w.ownsRow b e size v n xs) : ∃ a k c, v = .slice a k c := by
  rcases h.2 with ⟨rfl, _⟩ | ⟨g5, c5, _, rfl, _⟩
  · exact ⟨_, _, _, rfl⟩
  · exact ⟨_, _, _, rfl⟩
def lenV : Value → Nat
  | .slice _ n _ => n
  | _ => 0

set_option maxHeartbeats 6400000 in
set_option maxRecDepth 100000 in
theorem options_main (g : Nat) (base : Int) (ar : Option Addr) (lr cr : Nat) (dv sv bv : Value) (zs : List Int) (rs : List Bool) (seq ack room : Int) (w : World) (hrec : Rec w g true base (.slice ar lr cr) dv sv (.slice none 0 0) (.slice none 0 0))
    (hrd : Rd w ar lr (rs.map .bool)) (hlr : lr ≤ 65536) (hbv : Full w bv zs) (hz : zs.length ≤ 65536) (hne : bv.ownBlock ≠ some g) (hr0 : -9223372036854775808 ≤ room) (hr1 : room ≤ 9223372036854775807) (h0 : 0 ≤ subI ack base) (hlt : subI ack base < (lr : Int)) :
    Calls Try.prog 12 #[.pointer (some ⟨g, 0, none⟩), bv, .int .u64 seq, .int .u64 ack, .int .i64 room] w fun e w' => Left12 g bv zs rs true base ack room lr w e w' := by
  obtain ⟨i0, hi, hz0, hz1, hz2⟩ := info_parts info5
  have hgl : g < w.heap.size := (Array.getElem?_eq_some_iff.1 hrec.row).1
  have hc0 : w.cell? ⟨g, 0, none⟩ = some (.bool true) := row_cell hrec.row 0
  have hc1 : w.cell? ⟨g, 1, none⟩ = some (.int .u64 base) := row_cell hrec.row 1
  have hc2 : w.cell? ⟨g, 2, none⟩ = some (.slice ar lr cr) := row_cell hrec.row 2
  have hc5 : w.cell? ⟨g, 5, none⟩ = some (.slice none 0 0) := row_cell hrec.row 5
  have hf5 : w.frozen? ⟨g, 5, none⟩ = false := row_free hrec.row 5
  obtain ⟨hd1, hd2⟩ : subI ack base = dist ack base ∧ dist ack base ≤ 140737488355328 := by
    rcases subI_cases ack base with h | h
    · exact h
    · omega
  have HD1 : Hid _ := hd1
  obtain ⟨b2, o2, rfl⟩ : ∃ b2 o2, ar = some ⟨b2, o2, none⟩ := by
    obtain ⟨b, off, e, _⟩ := hrd.cells (by omega)
    exact ⟨b, off, e⟩
  have hb2 : b2 < w.heap.size := hrd.lt (by omega)
  have hlt' : ¬ (lr : Int) ≤ subI ack base := by omega
  have hdl : dist ack base < (lr : Int) := by omega
  have HRE : Hid (∀ P : Prop, (3 ≤ room ↔ P) → (reachB true base ack room lr = true ↔ P)) := by
    show ∀ P : Prop, (3 ≤ room ↔ P) → (reachB true base ack room lr = true ↔ P)
    intro P hP
    unfold reachB
    simp [hdl, hP]
  clear hd1
  go_enter Try.func12, Try.ntmps12
  go_upto_block 0 with (go_at_call 30; refine (sub_any ack base _).mono ?_; rintro e w1 ⟨rfl, hw⟩; subst w1)
  go_cut [11, 12] (fun i cv wx => ∃ cs : List Int, (cs.length : Int) ≤ dist ack base + 1 ∧ Rep rs (dist ack base) cs ∧ Blk w wx cv cs ∧ ((cs = [] ∧ room < 3) ∨ (cs ≠ [] ∧ optB cs.length ≤ room)))
  case first =>
    go_wp2_with fail
    go_loopw [11, 12] (fun i cv wr => ∃ (ii : Int) (cs : List Int), i = .int .i64 ii ∧ -1 ≤ ii ∧ ii < lr ∧ ii = dist ack base - used cs ∧ (cs.length : Int) + ii ≤ dist ack base ∧ Rep rs (dist ack base) cs ∧ Blk w wr cv cs ∧ (cs = [] ∨ optB cs.length ≤ room)) (fun i _ _ => (intOf i + 1).toNat)
    case atStart => exact ⟨_, [], rfl, by omega, by omega, by rw [used_nil, HD1.out]; omega, by rw [HD1.out]; simp, Rep.nil _ _, Blk.nil w, Or.inl rfl⟩
    case round =>
      obtain ⟨ii, cs, rfl, hi0, hi1, hiu, hlen, hrep, hB, hfit⟩ := hrel
      obtain ⟨a12, c12, rfl⟩ := hB.own.shape
      have HIU : Hid _ := hiu
      clear hiu
      by_cases hge : 0 ≤ ii
      · have hcl : cs.length ≤ 65536 := by omega
        obtain ⟨vv, hvv⟩ : ∃ vv : Int, vv = optB ((cs.length : Int) + 1) := ⟨_, rfl⟩
        have HVV : Hid (vv = _) := hvv
        clear hvv
        by_cases hroom : vv ≤ room
        · obtain ⟨k, rfl⟩ := Int.eq_ofNat_of_zero_le hge
          obtain ⟨b2', o2', got, e2, hx, hxs⟩ := rd_at hrd k (by omega)
          cases e2
          have hc2r : wr.cell? ⟨g, 2, none⟩ = some (.slice (some ⟨b2, o2, none⟩) lr cr) := (hB.below.cell (p := ⟨g, 2, none⟩) hgl).trans hc2
          have hxr : wr.cell? ⟨b2, o2 + k, none⟩ = some (.bool got) := (hB.below.cell (p := ⟨b2, o2 + k, none⟩) hb2).trans hx
          go_upto_block 2 with (go_at_call 31; refine (optionBytes_any _ _ (by omega) (by omega)).mono ?_; rintro e w1 ⟨rfl, hw⟩; subst w1; rw [← HVV.out])
          go_cut [14] (fun nn wx => ∃ m : Nat, 1 ≤ m ∧ m ≤ 64 ∧ m ≤ k + 1 ∧ nn = .int .i64 m ∧ (∀ q : Nat, q < m → rs[((k : Int) - q).toNat]? = some got) ∧ wx = wr)
          case first =>
            go_wp2_with fail
            go_loop [14] (fun nn => ∃ m : Nat, 1 ≤ m ∧ m ≤ 64 ∧ m ≤ k + 1 ∧ nn = .int .i64 m ∧ (∀ q : Nat, q < m → rs[((k : Int) - q).toNat]? = some got)) (fun nn => 64 - (intOf nn).toNat)
            case atStart => exact ⟨1, by omega, by omega, by omega, rfl, fun q hq => by
                have hq0 : q = 0 := by omega
                rw [hq0]
                simpa using hxs⟩
            case round =>
              obtain ⟨m, hm1, hm2, hm3, rfl, hall⟩ := hrel
              by_cases hm64 : m < 64
              · by_cases hmk : m ≤ k
                · obtain ⟨jm, hjm⟩ : ∃ jm : Nat, (k : Int) - (m : Int) = jm := ⟨k - m, by omega⟩
                  obtain ⟨b2', o2', y, e2, hy, hys⟩ := rd_at hrd jm (by omega)
                  cases e2
                  have hyr : wr.cell? ⟨b2, o2 + jm, none⟩ = some (.bool y) := (hB.below.cell (p := ⟨b2, o2 + jm, none⟩) hb2).trans hy
                  cases hzq : (y == got)
                  · go_wp2_with fail
                    go_meet
                    case rel => exact ⟨m, hm1, hm2, hm3, rfl, hall, rfl⟩
                  · have hyg : y = got := by simpa using hzq
                    go_wp2_with fail
                    go_round
                    case rel => exact ⟨m + 1, by omega, by omega, by omega, by go_num, fun q hq => by
                      by_cases hqm : q < m
                      · exact hall q hqm
                      · obtain rfl : q = m := by omega
                        rw [hjm, Int.toNat_natCast, hys, hyg]⟩
                    case measure => simp [intOf]; omega
                · go_wp2_with fail
                  go_meet
                  case rel => exact ⟨m, hm1, hm2, hm3, rfl, hall, rfl⟩
              · go_wp2_with fail
                go_meet
                case rel => exact ⟨m, hm1, hm2, hm3, rfl, hall, rfl⟩
          case rest =>
            obtain ⟨m, hm1, hm2, hm3, rfl, hall, hw⟩ := hcut
            subst wc
            have HCELL : Hid (∀ w0 : World, Calls Try.prog 32 #[.int .u8 (if got then 0 else 3), .int .i64 m] w0 fun e w' => e = .returned (.int .u8 (cellI got m)) ∧ w' = w0) := fun w0 => cell_any got m w0 hm1 hm2
            have hend : ∀ (w1 : World) (v1 : Value), Blk w w1 v1 (cs ++ [cellI got m]) → ∃ (ii : Int) (cs1 : List Int), Value.int .i64 ((k : Int) - m) = .int .i64 ii ∧ -1 ≤ ii ∧ ii < lr ∧ ii = dist ack base - used cs1 ∧ (cs1.length : Int) + ii ≤ dist ack base ∧ Rep rs (dist ack base) cs1 ∧ Blk w w1 v1 cs1 ∧ (cs1 = [] ∨ optB cs1.length ≤ room) := by
              intro w1 v1 h1
              refine ⟨_, _, rfl, by omega, by omega, by rw [used_push _ _ _ hm1 hm2]; have := HIU.out; omega, by simp; omega, hrep.push HIU.out hm1 hm2 (by omega) hall, h1, Or.inr ?_⟩
              have := HVV.out
              simp
              omega
            have HE : Hid _ := hend
            clear hend hall hrep
            cases got
            all_goals
              go_wp2_with (first
                | (go_at_call 32; refine (HCELL.out _).mono ?_; rintro e w1 ⟨rfl, hw⟩; subst w1)
                | (at_builtin; refine wpList_append_lies _ rfl (.tmp 84) (.tmp 88) 22 rfl 0 5 i0 (.int .u8 0) 1 1 Try.underlying22 hi hz0 hz1 hz2 rfl (by omega) _ cs.length (u8s cs) rfl (hB.own.alloc _) ⟨wr.heap.size, 0, none⟩ 1 1 (u8s [cellI _ m]) rfl rfl (news_one _ _) (u8s_one _) (by omega) (by unfold maxLen; omega) (by omega) (by omega) (wr.heap.size + 1) (by simp) ?_
                   intro g1 cap1 w1 hown1 hgr1 hat1 hlt1
                   have hBn := hB.push hown1 hgr1 hat1
                   clear hown1 hgr1 hat1 hlt1))
              go_roundw
              case rel => exact HE.out _ _ hBn
              case measure => simp [intOf]; omega
        · go_wp2_with (go_at_call 31; refine (optionBytes_any _ _ (by omega) (by omega)).mono ?_; rintro e w1 ⟨rfl, hw⟩; subst w1; rw [← HVV.out])
          go_meet
          case rel =>
            refine ⟨cs, by omega, hrep, hB, ?_⟩
            cases cs with
            | nil => exact Or.inl ⟨rfl, by have := HVV.out; simp [optB_1] at this; omega⟩
            | cons c cs => exact Or.inr ⟨by simp, hfit.resolve_left (by simp)⟩
      · go_wp2_with fail
        go_meet
        case rel =>
          refine ⟨cs, by omega, hrep, hB, ?_⟩
          cases cs with
          | nil => exact absurd HIU.out (by rw [used_nil]; have := dist_bd ack base; omega)
          | cons c cs => exact Or.inr ⟨by simp, hfit.resolve_left (by simp)⟩
  case rest =>
    obtain ⟨cs, hcl, hrep, hB, hfit⟩ := hcut
    have hc5r : wc.cell? ⟨g, 5, none⟩ = some (.slice none 0 0) := (hB.below.cell (p := ⟨g, 5, none⟩) hgl).trans hc5
    have hf5r : wc.frozen? ⟨g, 5, none⟩ = false := (hB.below.frozen (p := ⟨g, 5, none⟩) hgl).trans hf5
    have hgr : g < wc.heap.size := Nat.lt_of_lt_of_le hgl hB.below.size
    have HE : Hid _ := cellsEnd hrec.row (hbv.own hz) hne hB
    rcases hfit with ⟨rfl, hlow⟩ | ⟨hcs, hfit⟩
    · obtain ⟨a12, c12, rfl⟩ := hB.own.shape
      clear hB hrep
      go_wp2_with fail
      go_ret
      obtain ⟨e1, e2, e3⟩ := HE.out
      refine Left12.none e1 ?_ e3
      cases hb : reachB true base ack room lr with
      | false => rfl
      | true => exact absurd ((HRE.out (3 ≤ room) Iff.rfl).1 hb) (by omega)
    · have hlen : 1 ≤ cs.length := by
        cases cs with
        | nil => exact absurd rfl hcs
        | cons => simp
      have hcl5 : cs.length ≤ 65536 := by omega
      rcases hB.own.2 with ⟨_, h0⟩ | ⟨gc, capc, cur, e12, _, _, hcap1, hcap2, _, _⟩
      · omega
      · subst e12
        have hgc : w.heap.size ≤ gc := hB.new gc rfl
        have hgcl : gc < wc.heap.size := hB.own.lt rfl
        obtain ⟨W1, hW1⟩ : ∃ W1, W1 = wc.setCell ⟨g, 5, none⟩ (.slice (some ⟨gc, 0, none⟩) cs.length capc) := ⟨_, rfl⟩
        have HC1 : Hid (∀ j (h : j < cs.length), W1.cell? ⟨gc, j, none⟩ = some (.int .u8 cs[j])) := by
          show ∀ j (h : j < cs.length), W1.cell? ⟨gc, j, none⟩ = some (.int .u8 cs[j])
          intro j h
          rw [hW1, World.cell?_setCell_other _ _ _ _ (by simp <;> omega)]
          exact hB.own.cell j h
        have hgc1 : gc < W1.heap.size := by rw [hW1]; simpa using hgcl
        have hw1 : w.heap.size ≤ W1.heap.size := by omega
        have HE1 : Hid (Own W1 bv zs ∧ W1.heap[g]? = some (.cells (recCells true base (.slice (some ⟨b2, o2, none⟩) lr cr) dv sv (.slice (some ⟨gc, 0, none⟩) cs.length capc) (.slice none 0 0)) 58) ∧ Kp g bv.ownBlock w W1) := by
          rw [hW1]; exact HE.out
        have hq0 : ((cs.length : Int) == 0) = false := by simp; omega
        have HW1 : Hid _ := hW1
        have hBl : ∀ k, bv.ownBlock = some k → k < w.heap.size := fun k hk => (hbv.own hz).lt hk
        clear hW1 hB HE
        go_wp2_with fail
        go_loopw [1, 12] (fun b1 cv wr => ∃ (o n3 c3 : Nat) (a3 : Option Addr) (P : List Int), o + n3 = cs.length ∧ n3 ≤ c3 ∧ cv = .slice a3 n3 c3 ∧ (0 < n3 → a3 = some ⟨gc, o, none⟩) ∧ P.length ≤ 3 * o ∧ Nxt W1 wr b1 bv zs P ∧ (∀ T', Enc T' (cs.drop o) → Enc (P ++ T') cs)) (fun _ cv _ => lenV cv)
        case atStart =>
          refine ⟨0, cs.length, capc, some ⟨gc, 0, none⟩, [], by omega, by omega, rfl, fun _ => rfl, by simp, ?_, fun T' h => by simpa using h⟩
          rw [← HW1.out]
          exact ⟨by rw [List.append_nil]; exact HE1.out.1, World.grownBy.refl _ _, Or.inl rfl⟩
        case round =>
          obtain ⟨o, n3, c3, a3, P, hon, hnc3, rfl, ha3, hPl, hN3, henc⟩ := hrel
          have HENC : Hid _ := henc
          have hwr : W1.heap.size ≤ wr.heap.size := hN3.2.1.size
          have hob : o + n3 ≤ 65536 := by omega
          have HON : Hid (o + n3 = cs.length) := hon
          clear henc hon
          by_cases hn3 : 0 < n3
          · obtain rfl := ha3 hn3
            have HX : Hid (∀ m : Nat, 1 ≤ m → m ≤ 253 → m ≤ n3 → Calls Try.prog 33 #[u1, .agg #[.int .u8 38, .bool false, .slice (some ⟨gc, o, none⟩) m c3]] wr fun e w' => ∃ g2 n2 cap2, e = .returned (.slice (some ⟨g2, 0, none⟩) n2 cap2) ∧
                Nxt W1 w' (.slice (some ⟨g2, 0, none⟩) n2 cap2) bv zs (P ++ 38 :: ((m : Int) + 2) :: (cs.drop o).take m)) := by
              show ∀ m : Nat, 1 ≤ m → m ≤ 253 → m ≤ n3 → Calls Try.prog 33 #[u1, .agg #[.int .u8 38, .bool false, .slice (some ⟨gc, o, none⟩) m c3]] wr fun e w' => ∃ g2 n2 cap2, e = .returned (.slice (some ⟨g2, 0, none⟩) n2 cap2) ∧
                Nxt W1 w' (.slice (some ⟨g2, 0, none⟩) n2 cap2) bv zs (P ++ 38 :: ((m : Int) + 2) :: (cs.drop o).take m)
              intro m hm1 hm2 hm3
              obtain ⟨hO3, hG3, hat3⟩ := hN3
              have hon := HON.out
              have hne1 : u1.ownBlock ≠ some gc := by
                intro e
                rcases hat3 with h | ⟨k, h, hk⟩
                · have := hBl gc (h.symm.trans e); omega
                · rw [h] at e; cases e; omega
              refine (appendOption_any u1 (zs ++ P) 38 false gc o m c3 ((cs.drop o).take m) wr hO3 (by simp; omega) hm1 hm2 (by simp; omega) ?_ hne1 (by omega)).mono ?_
              · intro j h
                have hj : o + j < cs.length := by simp at h; omega
                rw [hG3.cell (HC1.out (o + j) hj) (fun e => by have := hBl gc e.symm; omega)]
                simp
              · rintro e w2 ⟨g2, cap2, rfl, ho2, hg2, hat2⟩
                refine ⟨g2, _, cap2, rfl, by rw [← List.append_assoc]; exact ho2, ?_, ?_⟩
                · refine grown_trans' hG3 hg2 (fun j hj => ?_)
                  rcases hat3 with h | ⟨k, h, hk⟩
                  · exact Or.inl (h.symm.trans hj)
                  · rw [h] at hj; cases hj; exact Or.inr hk
                · rcases hat2 with h | h
                  · rcases hat3 with h3 | ⟨k, h3, hk⟩
                    · exact Or.inl (h.symm.trans h3)
                    · rw [h] at h3; cases h3; exact Or.inr ⟨_, rfl, hk⟩
                  · exact Or.inr ⟨g2, rfl, Nat.le_trans hwr h⟩
            clear hN3
            by_cases hle : n3 ≤ 253
            · go_wp2_with (go_at_call 33; refine (HX.out n3 (by omega) hle (Nat.le_refl _)).mono ?_; rintro e w2 ⟨g2, n2, cap2, rfl, hN2⟩)
              go_roundw
              case rel => exact ⟨o + n3, 0, c3 - n3, _, _, by rw [HON.out]; rfl, by omega, rfl, fun h => absurd h (by omega), by simp; omega, hN2, enc_step HENC.out (by omega) hle (by rw [HON.out]; exact Nat.le_refl _)⟩
              case measure => simp [lenV]; omega
            · have hm253 : ¬ (n3 : Int) ≤ 253 := by omega
              have hc253 : ¬ c3 = 253 := by omega
              go_wp2_with (go_at_call 33; refine (HX.out 253 (by omega) (by omega) (by omega)).mono ?_; rintro e w2 ⟨g2, n2, cap2, rfl, hN2⟩)
              go_roundw
              case rel => exact ⟨o + 253, n3 - 253, c3 - 253, _, _, by have := HON.out; omega, by omega, rfl, fun h => rfl, by simp; omega, hN2, enc_step HENC.out (by omega) (by omega) (by have := HON.out; omega)⟩
              case measure => simp [lenV]; omega
          · obtain rfl : n3 = 0 := by omega
            obtain ⟨hO3, hG3, hat3⟩ := hN3
            have hol : o = cs.length := HON.out
            have hrow3 : wr.heap[g]? = some (.cells (recCells true base (.slice (some ⟨b2, o2, none⟩) lr cr) dv sv (.slice (some ⟨gc, 0, none⟩) cs.length capc) (.slice none 0 0)) 58) := by
              rw [hG3.block g (by omega) (fun e => hne e.symm)]
              exact HE1.out.2.1
            have hkp3 : Kp g bv.ownBlock w wr := HE1.out.2.2.grown hG3 (fun j h => Or.inl h)
            have hrec3 : Rec wr g true base (.slice (some ⟨b2, o2, none⟩) lr cr) dv sv (.slice (some ⟨gc, 0, none⟩) cs.length capc) (.slice none 0 0) := ⟨hrow3, hrec.drop.kp hkp3 hbv, hrec.sent.kp hkp3 hrec.row (fun k hk => ⟨_, hbv.block hk⟩)⟩
            have hne3 : u1.ownBlock ≠ some g := by
              intro e
              rcases hat3 with h | ⟨k, h, hk⟩
              · exact hne (h.symm.trans e)
              · rw [h] at e; cases e; omega
            have hc5w : wr.cell? ⟨g, 5, none⟩ = some (.slice (some ⟨gc, 0, none⟩) cs.length capc) := row_cell hrow3 5
            have hob0 := optB_nn cs.length
            obtain ⟨ob, hobe⟩ : ∃ ob : Int, ob = optB cs.length := ⟨_, rfl⟩
            rw [← hobe] at hob0 hfit
            have HOB : Hid (ob = _) := hobe
            have HDR : Hid (Calls Try.prog 34 #[.pointer (some ⟨g, 0, none⟩), u1, .int .u64 ack, .int .i64 (room - ob)] wr fun e w' => ∃ v dr, e = .returned v ∧ Own w' v ((zs ++ P) ++ dr) ∧ Drp dr ∧ (∃ bl, w'.heap[g]? = some (.cells (recCells true base (.slice (some ⟨b2, o2, none⟩) lr cr) dv sv (.slice (some ⟨gc, 0, none⟩) cs.length capc) bl) 58)) ∧ Kp g u1.ownBlock wr w' ∧ (v.ownBlock = u1.ownBlock ∨ ∃ k, v.ownBlock = some k ∧ wr.heap.size ≤ k)) :=
              appendDropped_any g true base _ dv sv _ u1 (zs ++ P) ack (room - ob) wr hrec3 hO3 (by simp; omega) hne3 (by omega) (by omega)
            have HS : Hid (SentOK wr sv) := hrec3.sent
            have HKP : Hid _ := hkp3
            have HAT : Hid _ := hat3
            have HTY : Hid (∀ k, u1.ownBlock = some k → ∃ cur, wr.heap[k]? = some (.cells cur 5)) := fun k hk => hO3.type hk
            have HROW : Hid _ := hrow3
            clear hobe hrec3 hkp3 hrow3 hO3 hG3 ha3
            go_upto_region 22 with (first
              | (go_at_call 31; refine (optionBytes_any _ _ (by omega) (by omega)).mono ?_; rintro e w1 ⟨rfl, hw⟩; subst w1; rw [← HOB.out])
              | (go_at_call 34; refine (HDR.out).mono ?_; rintro e w2 ⟨v, dr, rfl, hO4, hdr, ⟨bl, hrow4⟩, hkp4, hat4⟩))
            obtain ⟨i6, hi6, hy0, hy1, hy2⟩ := info_parts info60
            have hs4 : SentOK w2 sv := SentOK.kp HS.out hkp4 HROW.out HTY.out
            have hg2l : g < w2.heap.size := (Array.getElem?_eq_some_iff.1 hrow4).1
            have hc4 : w2.cell? ⟨g, 4, none⟩ = some sv := row_cell hrow4 4
            have hf4 : w2.frozen? ⟨g, 4, none⟩ = false := row_free hrow4 4
            have HFIN : Hid (∀ w4, Kp g none w2 w4 → Left12 g bv zs rs true base ack room lr w (.returned v) w4) := by
              show ∀ w4, Kp g none w2 w4 → Left12 g bv zs rs true base ack room lr w (.returned v) w4
              intro w4 hk
              have hvg : v.ownBlock ≠ some g := by
                intro e
                rcases hat4 with h | ⟨k, h, hk⟩
                · exact hne3 (h.symm.trans e)
                · rw [h] at e; cases e; omega
              refine ⟨v, P ++ dr, rfl, ?_, Or.inr ⟨(HRE.out (3 ≤ room) Iff.rfl).2 (optB_one cs.length hlen room (by rw [← HOB.out]; exact hfit)), ?_, cs, hcs, hcl5, hrep, HENC.out dr ?_⟩, ?_⟩
              · rw [← List.append_assoc]
                exact Own.kept (row := some g) hO4 ⟨hk.os, hk.tape, hk.output, hk.size, fun k h1 h2 => hk.block k h1 (fun e => h2 (by rw [e])) (by simp)⟩ (Or.inr hvg)
              · rcases hdr with rfl | ⟨k, bl', _, hk253, hbl, rfl⟩
                · simp; omega
                · simp [hbl]; omega
              · rw [hol, List.drop_length]; exact Enc.last hdr
              · refine (HKP.out.trans hkp4 (fun j hj => ?_)).trans hk (fun j hj => by cases hj)
                rcases HAT.out with h | ⟨k, h, hk⟩
                · exact Or.inl (h.symm.trans hj)
                · rw [h] at hj; cases hj; exact Or.inr (by omega)
            have hrow' : ∀ (W w' : World) (o : Obj), W.heap[g]? = w2.heap[g]? → (W.alloc o).grownBy w' none → g < W.heap.size → w'.cell? ⟨g, 4, none⟩ = w2.cell? ⟨g, 4, none⟩ ∧ w'.frozen? ⟨g, 4, none⟩ = w2.frozen? ⟨g, 4, none⟩ := by
              intro W w' o hW hgr hl
              have : w'.heap[g]? = w2.heap[g]? := by
                rw [hgr.block g (by simp; omega) (by simp), Below.heap_alloc _ _ _ hl]
                exact hW
              exact ⟨World.cell?_of_block (a := ⟨g, 4, none⟩) this, World.frozen?_of_block (a := ⟨g, 4, none⟩) this⟩
            have HRW : Hid _ := hrow'
            clear hrow'
            obtain ⟨ns, hns, ⟨rfl, rfl⟩ | ⟨gs, arr, rfl, hgs, harr⟩⟩ := hs4
            · clear hrow4 hO4 hkp4 hat4 hdr
              go_wp2_with (first
                | (at_builtin; refine wpList_append_grows _ rfl (.tmp 146) (.tmp 150) 56 rfl 60 i6 (.agg #[.int .u64 0, .int .u64 0]) 2 16 Try.underlying56 hi6 hy0 hy1 hy2 rfl (by omega) none 0 0 [] rfl (fun _ => ⟨rfl, rfl⟩) rfl (fun b h => by cases h) ⟨w2.heap.size, 0, none⟩ 1 1 [.int .u64 seq, .int .u64 ack] rfl rfl (by have := news_two w2 seq ack; simpa using this) (by simp [Value.oneCell']) (by omega) (by unfold maxLen; omega) (by omega) ?_
                   intro v5 w5 hown5 hgr5
                   obtain ⟨a5, n5, c5, rfl⟩ := slice_of hown5
                   obtain ⟨hc45, hf45⟩ := HRW.out _ _ _ rfl hgr5 hg2l
                   rw [hc4] at hc45
                   rw [hf4] at hf45))
              go_ret
              exact HFIN.out _ ((((Kp.refl _ _ _).alloc _).grown hgr5 (fun j h => by cases h)).set _ _)
            · have hgsl : gs < w2.heap.size := (Array.getElem?_eq_some_iff.1 hgs).1
              have hgg : gs ≠ g := by
                rintro rfl
                rw [hgs] at hrow4
                simp at hrow4
              by_cases h1024 : ns = 1024
              · subst h1024
                have HOLD : Hid (∀ b, some (⟨gs, 2, none⟩ : Addr) = some b → ∀ j u, (arr.toList.drop 2)[j]? = some u → ((w2.setCell ⟨g, 4, none⟩ (.slice (some ⟨gs, 2, none⟩) 1023 1023)).alloc (.cells #[.int .u64 seq, .int .u64 ack] 60)).cell? (b.add j) = some u) := by
                  show ∀ b, some (⟨gs, 2, none⟩ : Addr) = some b → ∀ j u, (arr.toList.drop 2)[j]? = some u → ((w2.setCell ⟨g, 4, none⟩ (.slice (some ⟨gs, 2, none⟩) 1023 1023)).alloc (.cells #[.int .u64 seq, .int .u64 ack] 60)).cell? (b.add j) = some u
                  rintro b hb j u hu
                  cases hb
                  rw [Addr.add_mid, World.cell?_of_block (w := w2) (by rw [Below.heap_alloc _ _ _ (by simpa using hgsl), Below.heap_setCell _ _ _ _ hgg]), row_cell hgs]
                  simpa [Nat.add_comm] using hu
                have HN2 : Hid (∀ j u, [Value.int .u64 seq, Value.int .u64 ack][j]? = some u → ((w2.setCell ⟨g, 4, none⟩ (.slice (some ⟨gs, 2, none⟩) 1023 1023)).alloc (.cells #[.int .u64 seq, .int .u64 ack] 60)).cell? ((⟨w2.heap.size, 0, none⟩ : Addr).add j) = some u) := by
                  have h := news_two (w2.setCell ⟨g, 4, none⟩ (.slice (some ⟨gs, 2, none⟩) 1023 1023)) seq ack
                  have e : (w2.setCell ⟨g, 4, none⟩ (.slice (some ⟨gs, 2, none⟩) 1023 1023)).heap.size = w2.heap.size := by simp
                  rw [e] at h
                  exact h
                have hg2s : g < (w2.setCell ⟨g, 4, none⟩ (.slice (some ⟨gs, 2, none⟩) 1023 1023)).heap.size := by simpa using hg2l
                have HRS : Hid (∀ w5 o, ((w2.setCell ⟨g, 4, none⟩ (.slice (some ⟨gs, 2, none⟩) 1023 1023)).alloc o).grownBy w5 none → (∃ x, w5.cell? ⟨g, 4, none⟩ = some x) ∧ w5.frozen? ⟨g, 4, none⟩ = false) := by
                  show ∀ w5 o, ((w2.setCell ⟨g, 4, none⟩ (.slice (some ⟨gs, 2, none⟩) 1023 1023)).alloc o).grownBy w5 none → (∃ x, w5.cell? ⟨g, 4, none⟩ = some x) ∧ w5.frozen? ⟨g, 4, none⟩ = false
                  intro w5 o hgr
                  have hr := row_set hrow4 4 (.slice (some ⟨gs, 2, none⟩) 1023 1023)
                  have : w5.heap[g]? = (w2.setCell ⟨g, 4, none⟩ (.slice (some ⟨gs, 2, none⟩) 1023 1023)).heap[g]? := by
                    rw [hgr.block g (by simp; omega) (by simp), Below.heap_alloc _ _ _ hg2s]
                  rw [← this] at hr
                  exact ⟨⟨_, row_cell hr 4⟩, row_free hr 4⟩
                have hlen2 : (arr.toList.drop 2).length = 1023 * 2 := by simp; omega
                clear hrow4 hO4 hkp4 hat4 hdr
                go_wp2_with (first
                | (at_builtin; refine wpList_append_grows _ rfl (.tmp 146) (.tmp 150) 56 rfl 60 i6 (.agg #[.int .u64 0, .int .u64 0]) 2 16 Try.underlying56 hi6 hy0 hy1 hy2 rfl (by omega) (some ⟨gs, 2, none⟩) 1023 1023 (arr.toList.drop 2) rfl (fun h => by cases h) hlen2 HOLD.out ⟨w2.heap.size, 0, none⟩ 1 1 [.int .u64 seq, .int .u64 ack] rfl rfl HN2.out (by simp [Value.oneCell']) (by omega) (by unfold maxLen; omega) (by omega) ?_
                   intro v5 w5 hown5 hgr5
                   obtain ⟨a5, n5, c5, rfl⟩ := slice_of hown5
                   obtain ⟨⟨x5, hc45⟩, hf45⟩ := HRS.out _ _ hgr5))
                go_ret
                exact HFIN.out _ (((((Kp.refl _ _ _).set _ _).alloc _).grown hgr5 (fun j h => by cases h)).set _ _)
              · have h1024' : ((ns : Int) == 1024) = false := by simp; omega
                have HOLD : Hid (∀ b, some (⟨gs, 0, none⟩ : Addr) = some b → ∀ j u, arr.toList[j]? = some u → (w2.alloc (.cells #[.int .u64 seq, .int .u64 ack] 60)).cell? (b.add j) = some u) := by
                  show ∀ b, some (⟨gs, 0, none⟩ : Addr) = some b → ∀ j u, arr.toList[j]? = some u → (w2.alloc (.cells #[.int .u64 seq, .int .u64 ack] 60)).cell? (b.add j) = some u
                  rintro b hb j u hu
                  cases hb
                  rw [Addr.add_mid, World.cell?_of_block (w := w2) (by rw [Below.heap_alloc _ _ _ hgsl]), row_cell hgs]
                  simpa using hu
                clear hrow4 hO4 hkp4 hat4 hdr
                go_wp2_with (first
                | (at_builtin; refine wpList_append_grows _ rfl (.tmp 146) (.tmp 150) 56 rfl 60 i6 (.agg #[.int .u64 0, .int .u64 0]) 2 16 Try.underlying56 hi6 hy0 hy1 hy2 rfl (by omega) (some ⟨gs, 0, none⟩) ns ns arr.toList rfl (fun h => by cases h) (by simpa using harr) HOLD.out ⟨w2.heap.size, 0, none⟩ 1 1 [.int .u64 seq, .int .u64 ack] rfl rfl (by have := news_two w2 seq ack; simpa using this) (by simp [Value.oneCell']) (by omega) (by unfold maxLen; omega) (by omega) ?_
                   intro v5 w5 hown5 hgr5
                   obtain ⟨a5, n5, c5, rfl⟩ := slice_of hown5
                   obtain ⟨hc45, hf45⟩ := HRW.out _ _ _ rfl hgr5 hg2l
                   rw [hc4] at hc45
                   rw [hf4] at hf45))
                go_ret
                exact HFIN.out _ ((((Kp.refl _ _ _).alloc _).grown hgr5 (fun j h => by cases h)).set _ _)

theorem appendOptions_any (g : Nat) (st : Bool) (base : Int) (ar : Option Addr) (lr cr : Nat) (dv sv bv : Value) (zs : List Int) (rs : List Bool) (seq ack room : Int) (w : World) (hrec : Rec w g st base (.slice ar lr cr) dv sv (.slice none 0 0) (.slice none 0 0))
    (hrd : Rd w ar lr (rs.map .bool)) (hlr : lr ≤ 65536) (hbv : Full w bv zs) (hz : zs.length ≤ 65536) (hr0 : -9223372036854775808 ≤ room) (hr1 : room ≤ 9223372036854775807) :
    Calls Try.prog 12 #[.pointer (some ⟨g, 0, none⟩), bv, .int .u64 seq, .int .u64 ack, .int .i64 room] w fun e w' => Left12 g bv zs rs st base ack room lr w e w' := by
  have hne : bv.ownBlock ≠ some g := by
    intro e
    have := hbv.block e
    rw [hrec.row] at this
    simp at this
  by_cases hno : st = false ∨ (lr : Int) ≤ subI ack base
  · exact options_stop g st base ar lr cr dv sv bv zs rs seq ack room w hrec (hbv.own hz) hno
  · have hst : st = true := by
      cases st
      · exact absurd (Or.inl rfl) hno
      · rfl
    subst hst
    have hlt : subI ack base < (lr : Int) := by
      by_cases h : (lr : Int) ≤ subI ack base
      · exact absurd (Or.inr h) hno
      · omega
    by_cases h0 : 0 ≤ subI ack base
    · exact options_main g base ar lr cr dv sv bv zs rs seq ack room w hrec hrd hlr hbv hz hne hr0 hr1 h0 hlt
    · exact options_below g base ar lr cr dv sv bv zs rs seq ack room w hrec hlr (hbv.own hz) hne (by omega)
end Go.Proofs.Qxb6604703a
