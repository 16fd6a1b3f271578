/- ZZnewSignature. -/
import Derived.Test.Qxb6604744aSig
import Derived.Deep.AppendLies
import Derived.Deep.DeepCutAuto
import Derived.Deep.CutBlock
import Derived.Deep.RegionHeld3
namespace Go.Proofs.Qxb6604744a
open Go.RowKit
set_option linter.unusedVariables false

theorem info37 : (Try.prog.info? 37).map (fun i => (i.zero, i.size, i.bytes)) = some (some (.agg #[.string ByteArray.empty, .nilIface]), 2, 32) := by kernel_rfl
theorem info39 : (Try.prog.info? 39).map (fun i => (i.zero, i.size, i.bytes)) = some (some (.agg #[.nilIface, .slice none 0 0]), 2, 40) := by kernel_rfl

/-- n elements of two cells. -/
def twos (n : Nat) : Array Value := madeCells #[.nilIface, .slice none 0 0] (n * 2)
theorem twos_size (n : Nat) : (twos n).size = n * 2 := size_madeCells _ _
theorem run_mk2 (n : Nat) (hn : n ≤ 1048577) (w : World) :
    (Instr.makeSlice 33 (.int .i64 n) (.int .i64 n)).run Try.prog w = .ok (.slice (some ⟨w.heap.size, 0, none⟩) n n) (w.alloc (.cells (twos n) 39)) := by
  obtain ⟨i, hi0, hz0, hz1, hz2⟩ := info_parts info39
  have hm : (i.bytes : Int) * (n : Int) ≤ 40 * 1048577 := by
    rw [hz2]
    exact Int.mul_le_mul (by omega) (by omega) (by omega) (by omega)
  have := run_make (P := Try.prog) w 33 39 i _ Try.underlying33 hi0 hz0 .i64 .i64 n n (by omega) (by omega) (by omega) (by omega)
  rw [hz1] at this
  simp only [Int.toNat_natCast] at this
  exact this

theorem two_cells {w : World} {g n : Nat} {arr : Array Value} {t : TypeId} (h : w.heap[g]? = some (.cells arr t)) (hs : arr.size = n * 2) (k : Nat) (hk : k < n) :
    (∃ y, w.cell? ⟨g, k * 2, none⟩ = some y) ∧ ∃ y, w.cell? ⟨g, k * 2 + 1, none⟩ = some y := by
  refine ⟨?_, ?_⟩ <;> (rw [row_cell h, Array.getElem?_eq_getElem (by omega)]; exact ⟨_, rfl⟩)
/-- The items are those of ids and trs. -/
def Its (is : List ByteArray) (ts : List Bool) (its : List (ByteArray × List ByteArray)) : Prop := ∀ j (h : j < its.length), its[j].1 = is.getD j ByteArray.empty ∧ hasTr its[j].2 = ts.getD j false

/-- In the midst of the loop: the first its.length items lie in block gi. -/
structure Ld (w wr : World) (n : Nat) (its : List (ByteArray × List ByteArray)) : Prop where
  at_ : ∀ j (h : j < its.length), ∃ pv, wr.cell? ⟨w.heap.size, j * 2, none⟩ = some (.iface 9 (.string its[j].1)) ∧ wr.cell? ⟨w.heap.size, j * 2 + 1, none⟩ = some pv ∧ PS wr pv its[j].2 ∧ pv.ownBlock ≠ some w.heap.size
  row : ∃ arr, wr.heap[w.heap.size]? = some (.cells arr 39) ∧ arr.size = n * 2
  below : Below w.heap.size w wr

theorem PS.kept {w w' : World} {v : Value} {ks : List ByteArray} (h : PS w v ks) (hk : ∀ k, v.ownBlock = some k → k < w.heap.size → w'.heap[k]? = w.heap[k]?) : PS w' v ks := by
  obtain ⟨a, c, rfl, hn, hc⟩ := h
  refine ⟨a, c, rfl, hn, fun j hj => ?_⟩
  obtain ⟨gp, t, u, rfl, h1, h2⟩ := hc j hj
  have hgl : gp < w.heap.size := World.block_lt_of_cell? w _ h1
  have he := hk gp rfl hgl
  exact ⟨gp, t, u, rfl, (World.cell?_of_block (a := ⟨gp, j * 2, none⟩) he).trans h1, (World.cell?_of_block (a := ⟨gp, j * 2 + 1, none⟩) he).trans h2⟩

theorem Ld.start {w : World} (n : Nat) : Ld w (w.alloc (.cells (twos n) 39)) n [] :=
  ⟨fun j h => by simp at h, ⟨_, heap_new w _, twos_size n⟩, (Below.refl _ _).alloc (Nat.le_refl _) _⟩

/-- One item more. -/
theorem Ld.push {w wr X : World} {n : Nat} {its : List (ByteArray × List ByteArray)} {id : ByteArray} {pv : Value} {ks : List ByteArray} (h : Ld w wr n its) (hk : its.length < n) (hb : Below wr.heap.size wr X) (hp : PS X pv ks) (hne : pv.ownBlock ≠ some w.heap.size) :
    Ld w ((X.setCell ⟨w.heap.size, its.length * 2, none⟩ (.iface 9 (.string id))).setCell ⟨w.heap.size, its.length * 2 + 1, none⟩ pv) n (its ++ [(id, ks)]) := by
  obtain ⟨arr, hr, hs⟩ := h.row
  have hgl : w.heap.size < wr.heap.size := (Array.getElem?_eq_some_iff.1 hr).1
  have hrX : X.heap[w.heap.size]? = some (.cells arr 39) := (hb.block _ hgl).trans hr
  have hr2 := row_set (row_set hrX (its.length * 2) (.iface 9 (.string id))) (its.length * 2 + 1) pv
  have hbl : ∀ k, k ≠ w.heap.size → ((X.setCell ⟨w.heap.size, its.length * 2, none⟩ (.iface 9 (.string id))).setCell ⟨w.heap.size, its.length * 2 + 1, none⟩ pv).heap[k]? = X.heap[k]? := fun k hk => by
    rw [Below.heap_setCell _ _ _ _ hk, Below.heap_setCell _ _ _ _ hk]
  refine ⟨fun j hj => ?_, ⟨_, hr2, by simp [hs]⟩, ?_⟩
  · by_cases hl : j < its.length
    · obtain ⟨pv', h1, h2, h3, h4⟩ := h.at_ j hl
      have e : (its ++ [(id, ks)])[j] = its[j] := List.getElem_append_left hl
      refine ⟨pv', ?_, ?_, ?_, h4⟩
      · rw [e, row_cell hr2]
        have := row_cell hr (j * 2)
        rw [h1] at this
        simp only [Array.getElem?_setIfInBounds]
        rw [if_neg (by omega), if_neg (by omega)]
        exact this.symm
      · rw [row_cell hr2]
        have := row_cell hr (j * 2 + 1)
        rw [h2] at this
        simp only [Array.getElem?_setIfInBounds]
        rw [if_neg (by omega), if_neg (by omega)]
        exact this.symm
      · rw [e]
        refine h3.kept (fun k hk hkl => ?_)
        rw [hbl k (fun e => h4 (by rw [hk, e]))]
        exact hb.block k hkl
    · have hje : j = its.length := by simp at hj; omega
      subst hje
      refine ⟨pv, ?_, ?_, ?_, hne⟩
      · rw [row_cell hr2]
        simp only [Array.getElem?_setIfInBounds]
        rw [if_neg (by omega), if_pos trivial]
        rw [if_pos (by omega)]
        simp
      · rw [row_cell hr2]
        simp only [Array.getElem?_setIfInBounds]
        rw [if_pos trivial]
        rw [if_pos (by simp; omega)]
      · simp only [List.getElem_concat_length]
        exact hp.kept (fun k hk _ => hbl k (fun e => hne (by rw [hk, e])))
  · refine ((h.below.trans (hb.mono h.below.size)).setCell (p := ⟨w.heap.size, its.length * 2, none⟩) (Nat.le_refl _) _).setCell (p := ⟨w.heap.size, its.length * 2 + 1, none⟩) (Nat.le_refl _) _

/-- The parameters that a row of its own holds. -/
theorem PS.one {w : World} {b g cap : Nat} {k : ByteArray} {t : TypeId} {u : Value} (h : w.ownsRow b 37 2 (.slice (some ⟨g, 0, none⟩) 1 cap) 1 [.string k, .iface t u]) : PS w (.slice (some ⟨g, 0, none⟩) 1 cap) [k] := by
  refine ⟨_, cap, rfl, by simp, fun j hj => ?_⟩
  have hj0 : j = 0 := by simp at hj; omega
  subst hj0
  have c0 := World.ownsRow.cellAt h 0 (by omega)
  have c1 := World.ownsRow.cellAt h 1 (by omega)
  exact ⟨g, t, u, rfl, by simpa using c0, by simpa using c1⟩
theorem PS.two {w : World} {b g cap : Nat} {k k' : ByteArray} {t t' : TypeId} {u u' : Value} (h : w.ownsRow b 37 2 (.slice (some ⟨g, 0, none⟩) 2 cap) 2 [.string k, .iface t u, .string k', .iface t' u']) : PS w (.slice (some ⟨g, 0, none⟩) 2 cap) [k, k'] := by
  refine ⟨_, cap, rfl, by simp, fun j hj => ?_⟩
  have c0 := World.ownsRow.cellAt h 0 (by omega)
  have c1 := World.ownsRow.cellAt h 1 (by omega)
  have c2 := World.ownsRow.cellAt h 2 (by omega)
  have c3 := World.ownsRow.cellAt h 3 (by omega)
  have hj2 : j = 0 ∨ j = 1 := by simp at hj; omega
  rcases hj2 with rfl | rfl
  · exact ⟨g, t, u, rfl, by simpa using c0, by simpa using c1⟩
  · exact ⟨g, t', u', rfl, by simpa using c2, by simpa using c3⟩
theorem PS.zero (w : World) : PS w (.slice none 0 0) [] := ⟨none, 0, rfl, by simp, fun j h => by simp at h⟩

theorem hasTr_nil : hasTr [] = false := rfl
theorem hasTr_key : hasTr [keyS] = false := by
  unfold hasTr
  rw [List.any_cons, ← beq_toListBytes]
  decide
theorem hasTr_tr : hasTr [trS] = true := by simp [hasTr]
theorem hasTr_both : hasTr [keyS, trS] = true := by simp [hasTr]
theorem news37 (wr : World) (k : ByteArray) (t : TypeId) (u : Value) : ∀ j x, [Value.string k, Value.iface t u][j]? = some x → (wr.alloc (.cells #[.string k, .iface t u] 37)).cell? ((⟨wr.heap.size, 0, none⟩ : Addr).add j) = some x := by
  have hb := heap_new wr (.cells #[.string k, .iface t u] 37)
  have := World.news_of_block hb
  simpa using this
theorem one37 (k k' : ByteArray) : (∀ x ∈ [Value.string k, Value.iface 9 (.string k')], x.oneCell' = true) ∧ ∀ x ∈ [Value.string k, Value.iface 4 (.bool true)], x.oneCell' = true := by
  simp [Value.oneCell']

set_option maxHeartbeats 6400000 in
set_option maxRecDepth 100000 in
theorem newSig_any (a0 a1 a2 : Option Addr) (n c0 l1 c1 l2 c2 : Nat) (is ks : List ByteArray) (ts : List Bool) (w : World) (hn : n ≤ 1048577) (h0 : Rd w a0 n (is.map .string)) (h1 : Rd w a1 l1 (ks.map .string)) (h2 : Rd w a2 l2 (ts.map .bool)) :
    Calls Try.prog 8 #[.slice a0 n c0, .slice a1 l1 c1, .slice a2 l2 c2] w fun e w' => ∃ g its, e = .returned (.pointer (some ⟨g, 0, none⟩)) ∧ Sig w' g its ∧ its.length = n ∧ Its is ts its ∧ Below w.heap.size w w' := by
  have hmk := run_mk2 n hn
  obtain ⟨i7, hi7, hz0, hz1, hz2⟩ := info_parts info37
  go_enter Try.func8, Try.ntmps8
  go_wp2
  go_loopw [8] (fun i wr => ∃ its : List (ByteArray × List ByteArray), its.length ≤ n ∧ i = .int .i64 its.length ∧ Its is ts its ∧ Ld w wr n its) (fun i _ => n - (intOf i).toNat)
  case atStart => exact ⟨[], by simp, rfl, fun j h => by simp at h, Ld.start n⟩
  case round =>
    obtain ⟨its, hk, rfl, hits, hL⟩ := hrel
    clear hmk
    by_cases hlt : its.length < n
    · obtain ⟨b0, o0, id, rfl, hid, his⟩ := rd_at h0 its.length hlt
      have hb0 : b0 < w.heap.size := h0.lt (by omega)
      have hbw := hL.below
      have hidr : wr.cell? ⟨b0, o0 + its.length, none⟩ = some (.string id) := (hbw.cell (p := ⟨b0, o0 + its.length, none⟩) hb0).trans hid
      obtain ⟨arr, hrow, hars⟩ := hL.row
      have hgl : w.heap.size < wr.heap.size := (Array.getElem?_eq_some_iff.1 hrow).1
      obtain ⟨⟨y0, hy0⟩, ⟨y1, hy1⟩⟩ := two_cells hrow hars its.length hlt
      have hf0 := row_free hrow (its.length * 2)
      have hf1 := row_free hrow (its.length * 2 + 1)
      have HL : Hid (Ld w wr n its) := hL
      have HITS : Hid (∀ kl, hasTr kl = ts.getD its.length false → Its is ts (its ++ [(id, kl)])) := by
        show ∀ kl, hasTr kl = ts.getD its.length false → Its is ts (its ++ [(id, kl)])
        intro kl hkl j hj
        by_cases hl : j < its.length
        · rw [List.getElem_append_left hl]
          exact hits j hl
        · have hje : j = its.length := by simp at hj; omega
          subst hje
          simp only [List.getElem_concat_length]
          exact ⟨by simp [List.getD, his], hkl⟩
      have HX : Hid (∀ X, Below wr.heap.size wr X → X.cell? ⟨b0, o0 + its.length, none⟩ = some (.string id) ∧ X.cell? ⟨w.heap.size, its.length * 2, none⟩ = some y0 ∧ X.cell? ⟨w.heap.size, its.length * 2 + 1, none⟩ = some y1 ∧ X.frozen? ⟨w.heap.size, its.length * 2, none⟩ = false ∧ X.frozen? ⟨w.heap.size, its.length * 2 + 1, none⟩ = false) := by
        show ∀ X, Below wr.heap.size wr X → X.cell? ⟨b0, o0 + its.length, none⟩ = some (.string id) ∧ X.cell? ⟨w.heap.size, its.length * 2, none⟩ = some y0 ∧ X.cell? ⟨w.heap.size, its.length * 2 + 1, none⟩ = some y1 ∧ X.frozen? ⟨w.heap.size, its.length * 2, none⟩ = false ∧ X.frozen? ⟨w.heap.size, its.length * 2 + 1, none⟩ = false
        intro X hX
        exact ⟨(hX.cell (p := ⟨b0, o0 + its.length, none⟩) (show b0 < wr.heap.size by omega)).trans hidr, (hX.cell (p := ⟨w.heap.size, its.length * 2, none⟩) hgl).trans hy0, (hX.cell (p := ⟨w.heap.size, its.length * 2 + 1, none⟩) hgl).trans hy1, (hX.frozen (p := ⟨w.heap.size, its.length * 2, none⟩) hgl).trans hf0, (hX.frozen (p := ⟨w.heap.size, its.length * 2 + 1, none⟩) hgl).trans hf1⟩
      have hkey : (¬ its.length < l1) ∨ (its.length < l1 ∧ ∃ b1 o1 s, a1 = some ⟨b1, o1, none⟩ ∧ b1 < w.heap.size ∧ wr.cell? ⟨b1, o1 + its.length, none⟩ = some (.string s)) := by
        by_cases h : its.length < l1
        · obtain ⟨b1, o1, s, rfl, hs, _⟩ := rd_at h1 its.length h
          exact Or.inr ⟨h, b1, o1, s, rfl, h1.lt (by omega), (hbw.cell (p := ⟨b1, o1 + its.length, none⟩) (h1.lt (by omega))).trans hs⟩
        · exact Or.inl h
      have htr : (¬ its.length < l2 ∧ ts.getD its.length false = false) ∨ (its.length < l2 ∧ ∃ b2 o2 x, a2 = some ⟨b2, o2, none⟩ ∧ b2 < wr.heap.size ∧ wr.cell? ⟨b2, o2 + its.length, none⟩ = some (.bool x) ∧ ts.getD its.length false = x) := by
        by_cases h : its.length < l2
        · obtain ⟨b2, o2, x, rfl, hs, hx⟩ := rd_at h2 its.length h
          exact Or.inr ⟨h, b2, o2, x, rfl, Nat.lt_of_lt_of_le (h2.lt (by omega)) hbw.size, (hbw.cell (p := ⟨b2, o2 + its.length, none⟩) (h2.lt (by omega))).trans hs, by simp [List.getD, hx]⟩
        · refine Or.inl ⟨h, ?_⟩
          have := h2.len_eq
          simp at this
          simp [List.getD, List.getElem?_eq_none (show ts.length ≤ its.length by omega)]
      have HW : Hid (Below wr.heap.size wr wr) := Below.refl _ _
      clear h0 h1 h2 hL hbw hits hrow hid
      rcases hkey with hk1 | ⟨hk1, b1, o1, s, rfl, hb1, hs1⟩
      · skip
        rcases htr with ⟨hk2, hts⟩ | ⟨hk2, b2, o2, x, rfl, hb2, ht2, hts⟩
        · have HTS : Hid (ts.getD its.length false = false) := hts
          clear hts
          go_wp2_with fail
          go_roundw
          case rel => exact ⟨its ++ [(id, [])], by simp; omega, by simp, HITS.out [] (by rw [HTS.out]; rfl), HL.out.push hlt HW.out (PS.zero _) (by simp [Value.ownBlock])⟩
          case measure => simp [intOf]; omega
        · have HTS : Hid (ts.getD its.length false = x) := hts
          clear hts
          cases x
          · skip
            go_wp2_with fail
            go_roundw
            case rel => exact ⟨its ++ [(id, [])], by simp; omega, by simp, HITS.out [] (by rw [HTS.out]; rfl), HL.out.push hlt HW.out (PS.zero _) (by simp [Value.ownBlock])⟩
            case measure => simp [intOf]; omega
          · skip
            go_wp2_with (first
              | (at_builtin; refine wpList_append_lies _ rfl (.tmp 49) (.tmp 52) 35 rfl 0 37 i7 (.agg #[.string ByteArray.empty, .nilIface]) 2 32 Try.underlying35 hi7 hz0 hz1 hz2 rfl (by omega) (.slice none 0 0) 0 [] rfl (World.ownsRow_nil _ _ _ _) ⟨wr.heap.size, 0, none⟩ 1 1 [.string trS, .iface 4 (.bool true)] rfl rfl (news37 _ _ _ _) (one37 _ ByteArray.empty).2 (by omega) (by unfold maxLen; omega) (by omega) (by omega) (wr.heap.size + 1) (by simp) ?_
                 intro g2 cap2 w2 hown2 hgr2 hat2 hlt2
                 have hB2 : Below wr.heap.size wr w2 := ((Below.refl _ _).alloc (Nat.le_refl _) _).grown hgr2 (by simp) (fun k h => by cases h)
                 have hg2 : wr.heap.size ≤ g2 := by
                   rcases hat2 with h | h
                   · cases h
                   · omega
                 obtain ⟨q0, q1, q2, q3, q4⟩ := HX.out w2 hB2
                 have HO2 : Hid _ := hown2
                 have HB2 : Hid _ := hB2
                 clear hown2 hgr2 hat2 hlt2 hB2))
            go_roundw
            case rel => exact ⟨its ++ [(id, [trS])], by simp; omega, by simp, HITS.out [trS] (by rw [HTS.out]; exact hasTr_tr), HL.out.push hlt HB2.out (PS.one HO2.out) (by simp [Value.ownBlock]; omega)⟩
            case measure => simp [intOf]; omega
      · cases hse : s.toList.isEmpty
        · skip
          rcases htr with ⟨hk2, hts⟩ | ⟨hk2, b2, o2, x, rfl, hb2, ht2, hts⟩
          · have HTS : Hid (ts.getD its.length false = false) := hts
            clear hts
            go_wp2_with (first
              | (at_builtin; refine wpList_append_lies _ rfl (.tmp 30) (.tmp 37) 35 rfl 0 37 i7 (.agg #[.string ByteArray.empty, .nilIface]) 2 32 Try.underlying35 hi7 hz0 hz1 hz2 rfl (by omega) _ 0 [] rfl (World.ownsRow_nil _ _ _ _) ⟨wr.heap.size, 0, none⟩ 1 1 [.string keyS, .iface 9 (.string s)] rfl rfl (news37 _ _ _ _) (one37 _ _).1 (by omega) (by unfold maxLen; omega) (by omega) (by omega) (wr.heap.size + 1) (by simp) ?_
                 intro g1 cap1 w1 hown1 hgr1 hat1 hlt1
                 have hB1 : Below wr.heap.size wr w1 := ((Below.refl _ _).alloc (Nat.le_refl _) _).grown hgr1 (by simp) (fun k h => by cases h)
                 have hg1 : wr.heap.size ≤ g1 := by
                   rcases hat1 with h | h
                   · cases h
                   · omega
                 obtain ⟨q0, q1, q2, q3, q4⟩ := HX.out w1 hB1
                 have HO1 : Hid (w1.ownsRow 0 37 2 (.slice (some ⟨g1, 0, none⟩) 1 cap1) 1 [.string keyS, .iface 9 (.string s)]) := hown1
                 have HB1 : Hid _ := hB1
                 clear hown1 hgr1 hat1 hlt1 hB1))
            go_roundw
            case rel => exact ⟨its ++ [(id, [keyS])], by simp; omega, by simp, HITS.out [keyS] (by rw [HTS.out]; exact hasTr_key), HL.out.push hlt HB1.out (PS.one HO1.out) (by simp [Value.ownBlock]; omega)⟩
            case measure => simp [intOf]; omega
          · have HTS : Hid (ts.getD its.length false = x) := hts
            clear hts
            cases x
            · skip
              go_wp2_with (first
                | (at_builtin; refine wpList_append_lies _ rfl (.tmp 30) (.tmp 37) 35 rfl 0 37 i7 (.agg #[.string ByteArray.empty, .nilIface]) 2 32 Try.underlying35 hi7 hz0 hz1 hz2 rfl (by omega) _ 0 [] rfl (World.ownsRow_nil _ _ _ _) ⟨wr.heap.size, 0, none⟩ 1 1 [.string keyS, .iface 9 (.string s)] rfl rfl (news37 _ _ _ _) (one37 _ _).1 (by omega) (by unfold maxLen; omega) (by omega) (by omega) (wr.heap.size + 1) (by simp) ?_
                   intro g1 cap1 w1 hown1 hgr1 hat1 hlt1
                   have hB1 : Below wr.heap.size wr w1 := ((Below.refl _ _).alloc (Nat.le_refl _) _).grown hgr1 (by simp) (fun k h => by cases h)
                   have hg1 : wr.heap.size ≤ g1 := by
                     rcases hat1 with h | h
                     · cases h
                     · omega
                   have htc1 : w1.cell? ⟨b2, o2 + its.length, none⟩ = some (.bool _) := (hB1.cell (p := ⟨b2, o2 + its.length, none⟩) hb2).trans ht2
                   obtain ⟨q0, q1, q2, q3, q4⟩ := HX.out w1 hB1
                   have HO1 : Hid (w1.ownsRow 0 37 2 (.slice (some ⟨g1, 0, none⟩) 1 cap1) 1 [.string keyS, .iface 9 (.string s)]) := hown1
                   have HB1 : Hid _ := hB1
                   clear hown1 hgr1 hat1 hlt1 hB1))
              go_roundw
              case rel => exact ⟨its ++ [(id, [keyS])], by simp; omega, by simp, HITS.out [keyS] (by rw [HTS.out]; exact hasTr_key), HL.out.push hlt HB1.out (PS.one HO1.out) (by simp [Value.ownBlock]; omega)⟩
              case measure => simp [intOf]; omega
            · skip
              go_wp2_with (first
                | (at_builtin; refine wpList_append_lies _ rfl (.tmp 30) (.tmp 37) 35 rfl 0 37 i7 (.agg #[.string ByteArray.empty, .nilIface]) 2 32 Try.underlying35 hi7 hz0 hz1 hz2 rfl (by omega) _ 0 [] rfl (World.ownsRow_nil _ _ _ _) ⟨wr.heap.size, 0, none⟩ 1 1 [.string keyS, .iface 9 (.string s)] rfl rfl (news37 _ _ _ _) (one37 _ _).1 (by omega) (by unfold maxLen; omega) (by omega) (by omega) (wr.heap.size + 1) (by simp) ?_
                   intro g1 cap1 w1 hown1 hgr1 hat1 hlt1
                   have hB1 : Below wr.heap.size wr w1 := ((Below.refl _ _).alloc (Nat.le_refl _) _).grown hgr1 (by simp) (fun k h => by cases h)
                   have hg1 : wr.heap.size ≤ g1 := by
                     rcases hat1 with h | h
                     · cases h
                     · omega
                   have htc1 : w1.cell? ⟨b2, o2 + its.length, none⟩ = some (.bool _) := (hB1.cell (p := ⟨b2, o2 + its.length, none⟩) hb2).trans ht2
                   have HO1 : Hid (w1.ownsRow 0 37 2 (.slice (some ⟨g1, 0, none⟩) 1 cap1) 1 [.string keyS, .iface 9 (.string s)]) := hown1
                   have HB1 : Hid _ := hB1
                   clear hown1 hgr1 hat1 hlt1 hB1)
                | (at_builtin; refine wpList_append_lies _ rfl (.tmp 49) (.tmp 52) 35 rfl 0 37 i7 (.agg #[.string ByteArray.empty, .nilIface]) 2 32 Try.underlying35 hi7 hz0 hz1 hz2 rfl (by omega) (.slice (some ⟨g1, 0, none⟩) 1 cap1) 1 [.string keyS, .iface 9 (.string s)] rfl (World.ownsRow.alloc HO1.out _) ⟨w1.heap.size, 0, none⟩ 1 1 [.string trS, .iface 4 (.bool true)] rfl rfl (news37 _ _ _ _) (one37 _ ByteArray.empty).2 (by omega) (by unfold maxLen; omega) (by omega) (by omega) (w1.heap.size + 1) (by simp) ?_
                   intro g2 cap2 w2 hown2 hgr2 hat2 hlt2
                   have hB2 : Below wr.heap.size wr w2 := (HB1.out.alloc HB1.out.size _).grown hgr2 (by have := HB1.out.size; simp; omega) (fun k h => by simp [Value.ownBlock] at h; omega)
                   have hg2 : wr.heap.size ≤ g2 := by
                     have := HB1.out.size
                     rcases hat2 with h | h
                     · simp [Value.ownBlock] at h; omega
                     · omega
                   obtain ⟨q0, q1, q2, q3, q4⟩ := HX.out w2 hB2
                   have HO2 : Hid _ := hown2
                   have HB2 : Hid _ := hB2
                   clear hown2 hgr2 hat2 hlt2 hB2))
              go_roundw
              case rel => exact ⟨its ++ [(id, [keyS, trS])], by simp; omega, by simp, HITS.out [keyS, trS] (by rw [HTS.out]; exact hasTr_both), HL.out.push hlt HB2.out (PS.two HO2.out) (by simp [Value.ownBlock]; omega)⟩
              case measure => simp [intOf]; omega
        · skip
          rcases htr with ⟨hk2, hts⟩ | ⟨hk2, b2, o2, x, rfl, hb2, ht2, hts⟩
          · have HTS : Hid (ts.getD its.length false = false) := hts
            clear hts
            go_wp2_with fail
            go_roundw
            case rel => exact ⟨its ++ [(id, [])], by simp; omega, by simp, HITS.out [] (by rw [HTS.out]; rfl), HL.out.push hlt HW.out (PS.zero _) (by simp [Value.ownBlock])⟩
            case measure => simp [intOf]; omega
          · have HTS : Hid (ts.getD its.length false = x) := hts
            clear hts
            cases x
            · skip
              go_wp2_with fail
              go_roundw
              case rel => exact ⟨its ++ [(id, [])], by simp; omega, by simp, HITS.out [] (by rw [HTS.out]; rfl), HL.out.push hlt HW.out (PS.zero _) (by simp [Value.ownBlock])⟩
              case measure => simp [intOf]; omega
            · skip
              go_wp2_with (first
                | (at_builtin; refine wpList_append_lies _ rfl (.tmp 49) (.tmp 52) 35 rfl 0 37 i7 (.agg #[.string ByteArray.empty, .nilIface]) 2 32 Try.underlying35 hi7 hz0 hz1 hz2 rfl (by omega) (.slice none 0 0) 0 [] rfl (World.ownsRow_nil _ _ _ _) ⟨wr.heap.size, 0, none⟩ 1 1 [.string trS, .iface 4 (.bool true)] rfl rfl (news37 _ _ _ _) (one37 _ ByteArray.empty).2 (by omega) (by unfold maxLen; omega) (by omega) (by omega) (wr.heap.size + 1) (by simp) ?_
                   intro g2 cap2 w2 hown2 hgr2 hat2 hlt2
                   have hB2 : Below wr.heap.size wr w2 := ((Below.refl _ _).alloc (Nat.le_refl _) _).grown hgr2 (by simp) (fun k h => by cases h)
                   have hg2 : wr.heap.size ≤ g2 := by
                     rcases hat2 with h | h
                     · cases h
                     · omega
                   obtain ⟨q0, q1, q2, q3, q4⟩ := HX.out w2 hB2
                   have HO2 : Hid _ := hown2
                   have HB2 : Hid _ := hB2
                   clear hown2 hgr2 hat2 hlt2 hB2))
              go_roundw
              case rel => exact ⟨its ++ [(id, [trS])], by simp; omega, by simp, HITS.out [trS] (by rw [HTS.out]; exact hasTr_tr), HL.out.push hlt HB2.out (PS.one HO2.out) (by simp [Value.ownBlock]; omega)⟩
              case measure => simp [intOf]; omega
    · have hln : its.length = n := by omega
      have hit : Items wr (.slice (some ⟨w.heap.size, 0, none⟩) n n) its := by
        subst hln
        exact ⟨w.heap.size, rfl, by omega, fun j hj => by obtain ⟨pv, q1, q2, q3, _⟩ := hL.at_ j hj; exact ⟨pv, q1, q2, q3⟩⟩
      have hbw := hL.below
      clear h0 h1 h2 hL
      go_wp2_with fail
      go_ret
      exact ⟨wr.heap.size, its, rfl, ⟨_, by rw [row_cell (heap_new wr _)]; rfl, hit.below ((Below.refl _ _).alloc (Nat.le_refl _) _)⟩, hln, hits, hbw.alloc hbw.size _⟩
end Go.Proofs.Qxb6604744a
