/- wire.AppendOption: two bytes of head and the data, onto a row that the call owns. -/
import Derived.Test.Qxb6604703aNew
import Derived.Deep.AppendLies
namespace Go.Proofs.Qxb6604703a
open Go.RowKit
set_option linter.unusedVariables false

abbrev u8s (zs : List Int) : List Value := zs.map (Value.int .u8)

/-- A slice of bytes that owns its row. -/
def Own (w : World) (v : Value) (zs : List Int) : Prop := w.ownsRow 0 5 1 v zs.length (u8s zs)

theorem Own.alloc {w : World} {v : Value} {zs : List Int} (h : Own w v zs) (o : Obj) : Own (w.alloc o) v zs := World.ownsRow.alloc h o
theorem Own.drew {w : World} {v : Value} {zs : List Int} (h : Own w v zs) : Own w.drew v zs := h
theorem Own.lt {w : World} {v : Value} {zs : List Int} (h : Own w v zs) {k : Nat} (hk : v.ownBlock = some k) : k < w.heap.size := (World.ownsRow.lt h k hk).2
theorem Own.kept {w w' : World} {row : Option Nat} {v : Value} {zs : List Int} (h : Own w v zs) (hg : w.grownBy w' row) (hne : v.ownBlock = none ∨ v.ownBlock ≠ row) : Own w' v zs := World.ownsRow.kept h hg hne
theorem Own.cell {w : World} {g cap n : Nat} {zs : List Int} (h : Own w (.slice (some ⟨g, 0, none⟩) n cap) zs) (j : Nat) (hj : j < zs.length) : w.cell? ⟨g, j, none⟩ = some (.int .u8 zs[j]) := by
  have hn : n = zs.length := by
    rcases h.2 with ⟨e, _⟩ | ⟨_, _, _, e, _⟩ <;> cases e
    rfl
  subst hn
  have := World.ownsRow.cellAt h j (by omega)
  rw [this]
  simp [hj]

theorem u8s_one (zs : List Int) : ∀ u ∈ u8s zs, u.oneCell' = true := ints_oneCell .u8 zs

theorem grown_trans {a b c : World} {r : Option Nat} (h : a.grownBy b r) (k : b.grownBy c r) : a.grownBy c r :=
  ⟨k.os.trans h.os, k.tape.trans h.tape, k.output.trans h.output, Nat.le_trans h.size k.size, fun i hi hne => (k.block i (Nat.lt_of_lt_of_le hi h.size) hne).trans (h.block i hi hne)⟩

/-- What a second step leaves, whose own row is the first one's or a new one. -/
theorem grown_trans' {a b c : World} {r r' : Option Nat} (h : a.grownBy b r) (k : b.grownBy c r') (hr : ∀ j, r' = some j → r = some j ∨ a.heap.size ≤ j) : a.grownBy c r :=
  ⟨k.os.trans h.os, k.tape.trans h.tape, k.output.trans h.output, Nat.le_trans h.size k.size, fun i hi hne => by
    refine (k.block i (Nat.lt_of_lt_of_le hi h.size) ?_).trans (h.block i hi hne)
    intro e
    rcases hr i e.symm with h1 | h1
    · exact hne h1.symm
    · omega⟩

theorem grown_allocs (w : World) (o o' : Obj) (row : Option Nat) : w.grownBy ((w.alloc o).alloc o') row := grown_trans (World.grownBy_alloc w o row) (World.grownBy_alloc _ o' row)

set_option maxHeartbeats 1600000 in
set_option maxRecDepth 100000 in
theorem appendOption_any (bv : Value) (zs : List Int) (ty : Int) (mand : Bool) (gd od m cd : Nat) (ds : List Int) (w : World) (hown : Own w bv zs) (hn : zs.length ≤ 1073741824) (hm1 : 1 ≤ m) (hm2 : m ≤ 253) (hds : ds.length = m)
    (hcell : ∀ j (h : j < ds.length), w.cell? ⟨gd, od + j, none⟩ = some (.int .u8 ds[j])) (hne : bv.ownBlock ≠ some gd) (hgd : gd < w.heap.size) :
    Calls Try.prog 33 #[bv, .agg #[.int .u8 ty, .bool mand, .slice (some ⟨gd, od, none⟩) m cd]] w fun e w' => ∃ g cap, e = .returned (.slice (some ⟨g, 0, none⟩) (zs.length + 2 + m) cap) ∧
      Own w' (.slice (some ⟨g, 0, none⟩) (zs.length + 2 + m) cap) (zs ++ ty :: ((m : Int) + 2) :: ds) ∧ w.grownBy w' bv.ownBlock ∧ (bv.ownBlock = some g ∨ w.heap.size ≤ g) := by
  obtain ⟨i0, hi, hz0, hz1, hz2⟩ := info_parts info5
  have hb63 : zs.length + 2 ≤ maxLen := by unfold maxLen; omega
  have hb632 : zs.length + 2 + m ≤ maxLen := by unfold maxLen; omega
  have hnews1 : ∀ j u, (u8s [ty, (m : Int) + 2])[j]? = some u → ((w.alloc (.cells #[.int .u8 ty, .bool mand, .slice (some ⟨gd, od, none⟩) m cd] 65)).alloc (.cells #[.int .u8 ty, .int .u8 ((m : Int) + 2)] 5)).cell? ((⟨w.heap.size + 1, 0, none⟩ : Addr).add j) = some u := by
    have hb := heap_new (w.alloc (.cells #[.int .u8 ty, .bool mand, .slice (some ⟨gd, od, none⟩) m cd] 65)) (.cells #[.int .u8 ty, .int .u8 ((m : Int) + 2)] 5)
    have := World.news_of_block hb
    simpa using this
  have hown1 := (hown.alloc (.cells #[.int .u8 ty, .bool mand, .slice (some ⟨gd, od, none⟩) m cd] 65)).alloc (.cells #[.int .u8 ty, .int .u8 ((m : Int) + 2)] 5)
  have hblt : ∀ k, bv.ownBlock = some k → k < w.heap.size := fun k hk => hown.lt hk
  -- what stands behind the first append
  have hbox : ∀ w1 : World, ((w.alloc (.cells #[.int .u8 ty, .bool mand, .slice (some ⟨gd, od, none⟩) m cd] 65)).alloc (.cells #[.int .u8 ty, .int .u8 ((m : Int) + 2)] 5)).grownBy w1 bv.ownBlock →
      w1.cell? ⟨w.heap.size, 2, none⟩ = some (.slice (some ⟨gd, od, none⟩) m cd) ∧ ∀ j u, (u8s ds)[j]? = some u → w1.cell? ((⟨gd, od, none⟩ : Addr).add j) = some u := by
    intro w1 hg
    refine ⟨?_, fun j u hu => ?_⟩
    · rw [hg.cell_far ⟨w.heap.size, 2, none⟩ (by simp; omega) (fun e => absurd (hblt _ e.symm) (Nat.lt_irrefl _))]
      simp
    · have hj : j < ds.length := by
        have := (List.getElem?_eq_some_iff.1 hu).1
        simpa using this
      rw [Addr.add_mid, hg.cell_far ⟨gd, od + j, none⟩ (by simp; omega) (fun e => hne e.symm)]
      rw [World.cell?_of_block (w := w) (by rw [Below.heap_alloc _ _ _ (by simp; omega), Below.heap_alloc _ _ _ hgd]), hcell j hj]
      rw [List.getElem?_map, List.getElem?_eq_getElem hj] at hu
      exact hu
  have hend : ∀ (w1 w2 : World) (g1 g2 cap1 cap2 : Nat), ((w.alloc (.cells #[.int .u8 ty, .bool mand, .slice (some ⟨gd, od, none⟩) m cd] 65)).alloc (.cells #[.int .u8 ty, .int .u8 ((m : Int) + 2)] 5)).grownBy w1 bv.ownBlock →
      (bv.ownBlock = some g1 ∨ g1 = w.heap.size + 1 + 1) → w1.grownBy w2 (Value.slice (some ⟨g1, 0, none⟩) (zs.length + 2) cap1).ownBlock → ((Value.slice (some ⟨g1, 0, none⟩) (zs.length + 2) cap1).ownBlock = some g2 ∨ g2 = w1.heap.size) →
      w2.ownsRow 0 5 1 (.slice (some ⟨g2, 0, none⟩) (zs.length + 2 + m) cap2) (zs.length + 2 + m) (u8s zs ++ u8s [ty, (m : Int) + 2] ++ u8s ds) →
      Own w2 (.slice (some ⟨g2, 0, none⟩) (zs.length + 2 + m) cap2) (zs ++ ty :: ((m : Int) + 2) :: ds) ∧ w.grownBy w2 bv.ownBlock ∧ (bv.ownBlock = some g2 ∨ w.heap.size ≤ g2) := by
    intro w1 w2 g1 g2 cap1 cap2 hg1 hat1 hg2 hat2 ho
    refine ⟨?_, ?_, ?_⟩
    · unfold Own
      have hl : (zs ++ ty :: ((m : Int) + 2) :: ds).length = zs.length + 2 + m := by simp; omega
      have hx : u8s (zs ++ ty :: ((m : Int) + 2) :: ds) = u8s zs ++ u8s [ty, (m : Int) + 2] ++ u8s ds := by simp [u8s]
      rw [hl, hx]
      exact ho
    · refine grown_trans' (grown_trans (grown_allocs w _ _ bv.ownBlock) hg1) hg2 (fun j hj => ?_)
      have : g1 = j := by simpa [Value.ownBlock] using hj
      subst this
      rcases hat1 with h | h
      · exact Or.inl h
      · exact Or.inr (by omega)
    · have hs1 := hg1.size
      simp at hs1
      rcases hat2 with h | h
      · have : g1 = g2 := by simpa [Value.ownBlock] using h
        subst this
        rcases hat1 with h | h
        · exact Or.inl h
        · exact Or.inr (by omega)
      · exact Or.inr (by omega)
  have HN : Hid _ := hnews1
  have HO : Hid _ := hown1
  have HB : Hid _ := hbox
  have HE : Hid _ := hend
  clear hnews1 hown1 hcell hbox hend hblt
  go_enter Try.func33, Try.ntmps33
  go_wp2_with (first
    | (at_builtin; refine wpList_append_lies _ rfl (.tmp 5) (.tmp 13) 22 rfl 0 5 i0 (.int .u8 0) 1 1 Try.underlying22 hi hz0 hz1 hz2 rfl (by omega) bv zs.length (u8s zs) rfl HO.out ⟨w.heap.size + 1, 0, none⟩ 2 2 (u8s [ty, (m : Int) + 2]) rfl rfl HN.out (u8s_one _) (by omega) hb63 (by omega) (by omega) (w.heap.size + 1 + 1) (by simp) ?_
       intro g1 cap1 w1 hown1 hgr1 hat1 hlt1
       have hbx := (HB.out w1 hgr1).1
       have HB2 : Hid _ := (HB.out w1 hgr1).2
       have HO1 : Hid _ := hown1
       clear hown1)
    | (at_builtin; refine wpList_append_lies _ rfl (.tmp 15) (.tmp 17) 22 rfl 0 5 i0 (.int .u8 0) 1 1 Try.underlying22 hi hz0 hz1 hz2 rfl (by omega) _ (zs.length + 2) (u8s zs ++ u8s [ty, (m : Int) + 2]) rfl HO1.out ⟨gd, od, none⟩ m cd (u8s ds) rfl (by simp [hds]) HB2.out (u8s_one _) (by omega) hb632 (by omega) (by omega) w1.heap.size rfl ?_
       intro g2 cap2 w2 hown2 hgr2 hat2 hlt2))
  go_ret
  exact ⟨g2, cap2, rfl, HE.out w1 w2 g1 g2 cap1 cap2 hgr1 hat1 hgr2 hat2 hown2⟩
end Go.Proofs.Qxb6604703a
