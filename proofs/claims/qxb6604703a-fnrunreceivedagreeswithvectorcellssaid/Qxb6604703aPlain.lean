/- The plain side: cells, what they report of the received packets, and how they stand in the options. -/
import Derived.Test.Qxb6604703aDropped
namespace Go.Proofs.Qxb6604703a
open Go.RowKit
set_option linter.unusedVariables false

/-- The packets that the cells report. -/
def used (cs : List Int) : Int := (cs.map (fun c => c % 64 + 1)).sum
theorem used_nil : used [] = 0 := rfl
theorem cell_len (got : Bool) (n : Nat) (h1 : 1 ≤ n) (h2 : n ≤ 64) : cellI got n % 64 + 1 = n := by
  unfold cellI
  cases got <;> simp <;> omega
theorem used_push (cs : List Int) (got : Bool) (n : Nat) (h1 : 1 ≤ n) (h2 : n ≤ 64) : used (cs ++ [cellI got n]) = used cs + n := by
  unfold used
  simp [cell_len got n h1 h2]
theorem used_take (cs : List Int) (k : Nat) (h : k < cs.length) (got : Bool) (n : Nat) (e : cs[k] = cellI got n) (h1 : 1 ≤ n) (h2 : n ≤ 64) : used (cs.take (k + 1)) = used (cs.take k) + n := by
  rw [List.take_succ_eq_append_getElem h, e]
  exact used_push _ _ _ h1 h2

/-- The cells report what rs holds, from p down. -/
def Rep (rs : List Bool) (p : Int) (cs : List Int) : Prop := ∀ k (h : k < cs.length), ∃ (got : Bool) (n : Nat), cs[k] = cellI got n ∧ 1 ≤ n ∧ n ≤ 64 ∧ (n : Int) ≤ p - used (cs.take k) + 1 ∧
  ∀ q : Nat, q < n → rs[(p - used (cs.take k) - q).toNat]? = some got
theorem Rep.nil (rs : List Bool) (p : Int) : Rep rs p [] := fun k h => by simp at h
theorem Rep.push {rs : List Bool} {p i : Int} {cs : List Int} {got : Bool} {n : Nat} (h : Rep rs p cs) (hi : i = p - used cs) (h1 : 1 ≤ n) (h2 : n ≤ 64) (h3 : (n : Int) ≤ i + 1)
    (h4 : ∀ q : Nat, q < n → rs[(i - q).toNat]? = some got) : Rep rs p (cs ++ [cellI got n]) := by
  intro k hk
  by_cases hl : k < cs.length
  · obtain ⟨got', n', e, a, b, c, d⟩ := h k hl
    refine ⟨got', n', by rw [List.getElem_append_left hl]; exact e, a, b, ?_, ?_⟩
    · rw [List.take_append_of_le_length (by omega)]; exact c
    · rw [List.take_append_of_le_length (by omega)]; exact d
  · have hke : k = cs.length := by simp at hk; omega
    subst hke
    refine ⟨got, n, by simp, h1, h2, ?_, ?_⟩
    · rw [List.take_append_of_le_length (Nat.le_refl _), List.take_length]; omega
    · rw [List.take_append_of_le_length (Nat.le_refl _), List.take_length, ← hi]; exact h4

/-- The options that hold these cells, and behind them at most a Data Dropped option. -/
inductive Enc : List Int → List Int → Prop
  | last {dr : List Int} : Drp dr → Enc dr []
  | opt {m : Nat} {ch T cs : List Int} : 1 ≤ m → m ≤ 253 → ch.length = m → Enc T cs → Enc (38 :: ((m : Int) + 2) :: (ch ++ T)) (ch ++ cs)

/-- One option more. -/
theorem enc_step {cs P : List Int} {o m : Nat} (h : ∀ T', Enc T' (cs.drop o) → Enc (P ++ T') cs) (h1 : 1 ≤ m) (h2 : m ≤ 253) (hm : o + m ≤ cs.length) :
    ∀ T', Enc T' (cs.drop (o + m)) → Enc ((P ++ 38 :: ((m : Int) + 2) :: (cs.drop o).take m) ++ T') cs := by
  intro T' hT
  have hl : ((cs.drop o).take m).length = m := by simp; omega
  have := Enc.opt h1 h2 hl hT
  have e : (cs.drop o).take m ++ cs.drop (o + m) = cs.drop o := by
    rw [← List.drop_drop, List.take_append_drop]
  rw [e] at this
  have := h _ this
  simpa using this

def reachB (st : Bool) (base ack room : Int) (lr : Nat) : Bool := st && decide (dist ack base < (lr : Int)) && decide (3 ≤ room)
/-- What AppendOptions appends. -/
def Said (rs : List Bool) (st : Bool) (base ack room : Int) (lr : Nat) (T : List Int) : Prop :=
  (T = [] ∧ reachB st base ack room lr = false) ∨ (reachB st base ack room lr = true ∧ T.length ≤ 200000 ∧ ∃ cs, cs ≠ [] ∧ cs.length ≤ 65536 ∧ Rep rs (dist ack base) cs ∧ Enc T cs)

/-- A slice of bytes over a row of just its bytes. -/
def Full (w : World) (bv : Value) (zs : List Int) : Prop := (bv = .slice none 0 0 ∧ zs = []) ∨ ∃ gb, bv = .slice (some ⟨gb, 0, none⟩) zs.length zs.length ∧ w.heap[gb]? = some (.cells (u8s zs).toArray 5)
theorem Full.own {w : World} {bv : Value} {zs : List Int} (h : Full w bv zs) (hz : zs.length ≤ 65536) : Own w bv zs := by
  rcases h with ⟨rfl, rfl⟩ | ⟨gb, rfl, hb⟩
  · exact World.ownsRow_nil _ _ _ _
  · exact ⟨by simp, Or.inr ⟨gb, zs.length, _, rfl, Nat.zero_le _, hb, Nat.le_refl _, by unfold maxLen; omega, by simp, by simp only [Nat.mul_one]; exact List.take_of_length_le (by simp)⟩⟩
theorem Full.block {w : World} {bv : Value} {zs : List Int} (h : Full w bv zs) {k : Nat} (hk : bv.ownBlock = some k) : w.heap[k]? = some (.cells (u8s zs).toArray 5) := by
  rcases h with ⟨rfl, rfl⟩ | ⟨gb, rfl, hb⟩
  · cases hk
  · have : gb = k := by simpa [Value.ownBlock] using hk
    subst this
    exact hb
/-- What is read elsewhere does not lie in the bytes' row. -/
theorem Full.far {w : World} {bv : Value} {zs : List Int} (h : Full w bv zs) {α : Type} {f : α → Value} {xs : List α} {a : Option Addr} {n : Nat} (hr : Rd w a n (xs.map f)) (hn : 0 < n) (hf : ∀ x y, f x ≠ .int .u8 y) :
    ∀ x, a = some x → bv.ownBlock ≠ some x.block := by
  intro x hx hb
  obtain ⟨b, off, y, e, hc, _⟩ := rd_at hr 0 hn
  rw [e] at hx
  cases hx
  have := row_cell (h.block hb) (off + 0)
  rw [this] at hc
  simp at hc
  obtain ⟨z, _, hz⟩ := hc
  exact hf _ _ hz.symm
end Go.Proofs.Qxb6604703a
