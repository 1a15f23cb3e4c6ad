import Derived.Test.Qxb6604007aScanWalk
import Derived.Laws.AppendOwnNone
import Derived.OwnWalk
import Derived.Deep.CutBlock
namespace Go.Proofs.Qxb6604007a.Leaf
open Go Go.RowKit Plain
set_option linter.unusedVariables false

/-- The bytes of a slice that may be nil. -/
def Opt (w : World) (a : Option Addr) (n : Nat) (B : Nat → UInt8) : Prop := (a = none ∧ n = 0) ∨ ∃ x, a = some x ∧ Holds w x n B

/-- Where the clone of a slice lies. -/
def copyAt (a : Option Addr) (w : World) : Option Addr := if a.isSome then some ⟨w.heap.size, 0, none⟩ else none

theorem Holds.below {w w' : World} {x : Addr} {n b : Nat} {B : Nat → UInt8} (h : Holds w x n B) (hb : Below b w w') (hle : w.heap.size ≤ b) : Holds w' x n B := by
  intro i hi
  rw [hb.cell (Nat.lt_of_lt_of_le (cell_blk (h i hi)) hle)]
  exact h i hi
theorem Row.below {w w' : World} {r n b : Nat} {B : Nat → UInt8} (h : Row w r n B) (hb : Below b w w') (hr : r < b) : Row w' r n B := by
  intro i hi
  rw [hb.cell (p := ⟨r, i, none⟩) hr]
  exact h i hi
theorem Row.holds {w : World} {r n : Nat} {B : Nat → UInt8} (h : Row w r n B) : Holds w ⟨r, 0, none⟩ n B := by
  intro i hi
  have e : (⟨r, 0, none⟩ : Addr).add i = ⟨r, i, none⟩ := by unfold Addr.add; split <;> simp_all
  rw [e]
  exact h i hi
theorem Row.cut {w : World} {r n m : Nat} {B : Nat → UInt8} (h : Row w r n B) (hm : m ≤ n) : Row w r m B := fun i hi => h i (by omega)

theorem clone_opt {w : World} {a : Option Addr} {n c : Nat} {B : Nat → UInt8} (h : (a = none ∧ n = 0 ∧ c = 0) ∨ ∃ x, a = some x ∧ Holds w x n B) (hn : n ≤ 1048576) :
    Calls Try.prog 10 #[.slice a n c] w fun e w' => e = .returned (.slice (copyAt a w) n n) ∧ (Opt w' (copyAt a w) n B ∧ Below w.heap.size w w') := by
  rcases h with ⟨rfl, rfl, rfl⟩ | ⟨x, rfl, h⟩
  · refine (clone_nil w).mono ?_
    rintro e w' ⟨rfl, rfl⟩
    exact ⟨rfl, Or.inl ⟨rfl, rfl⟩, Below.refl _ _⟩
  · refine (clone_all h hn).mono ?_
    rintro e w' ⟨rfl, h1, h2, h3⟩
    exact ⟨rfl, Or.inr ⟨_, rfl, h1.holds⟩, h2⟩

/-- The bytes of the one row, then those of the other. -/
def both (n : Nat) (B E : Nat → UInt8) (i : Nat) : UInt8 := if i < n then B i else E (i - n)

theorem own_some {w : World} {base : Nat} {v : Value} {n : Nat} {xs : List Value} (h : w.ownsRow base 5 1 v n xs) (hne : v ≠ .slice none 0 0) : ∃ g cap, v = .slice (some ⟨g, 0, none⟩) n cap ∧ n ≤ cap ∧ cap ≤ maxLen := by
  rcases h.2 with ⟨e, _⟩ | ⟨g, cap, cur, hv, _, _, h1, h2, _⟩
  · exact absurd e hne
  · exact ⟨g, cap, hv, h1, h2⟩

theorem own_row {w : World} {base g n cap : Nat} {B : Nat → UInt8} (h : w.ownsRow base 5 1 (.slice (some ⟨g, 0, none⟩) n cap) n (cellsOf n B)) : Row w g n B := by
  intro i hi
  rw [h.cellAt i (by omega), cellsOf_get B hi]

theorem cells_both (n m : Nat) (B E : Nat → UInt8) : cellsOf n B ++ cellsOf m E = cellsOf (n + m) (both n B E) := by
  apply List.ext_getElem?
  intro i
  by_cases h : i < n
  · rw [List.getElem?_append_left (by rw [cellsOf_len]; exact h), cellsOf_get B h, cellsOf_get (both n B E) (by omega), both, if_pos h]
  · rw [List.getElem?_append_right (by rw [cellsOf_len]; omega), cellsOf_len]
    by_cases h2 : i < n + m
    · rw [cellsOf_get E (by omega), cellsOf_get (both n B E) h2, both, if_neg h]
    · rw [List.getElem?_eq_none (by rw [cellsOf_len]; omega), List.getElem?_eq_none (by rw [cellsOf_len]; omega)]

/-- append of a slice of bytes, nil too, to a row that the call owns. -/
theorem wpList_append_opt {w : World} {ops : Array Oper} {rest : List Oper} {o : Oper} {a : Act} {Q : Exit → Act → World → Prop} (hgd : o.guard = none) (s x : Operand)
    (ho : o.op = .call { callee := .builtin .append, args := #[s, x], argTypes := #[22, 22] })
    (base g0 n cap0 : Nat) (B : Nat → UInt8) (hs : a.eval s = .slice (some ⟨g0, 0, none⟩) n cap0) (hown : w.ownsRow base 5 1 (.slice (some ⟨g0, 0, none⟩) n cap0) n (cellsOf n B))
    (ad : Option Addr) (m : Nat) (E : Nat → UInt8) (hx : a.eval x = .slice ad m m) (hE : Opt w ad m E) (hnm : n + m ≤ 1048576) (hbase : base ≤ w.heap.size) (w0 : World) (hb0 : Below base w0 w)
    (h : ∀ g cap w', w'.ownsRow base 5 1 (.slice (some ⟨g, 0, none⟩) (n + m) cap) (n + m) (cellsOf (n + m) (both n B E)) → Below base w0 w' → n + m ≤ cap → cap ≤ maxLen → wpList Try.prog ops Q rest (a.put o.dst (.slice (some ⟨g, 0, none⟩) (n + m) cap)) w') :
    wpList Try.prog ops Q (o :: rest) a w := by
  obtain ⟨i0, hi, hz0, hz1, hz2⟩ := info_parts info5
  rcases hE with ⟨rfl, rfl⟩ | ⟨x0, rfl, hx0⟩
  · refine wpList_append_own_none hgd s x 22 ho base 5 i0 1 Try.underlying22 hi _ n _ hs hown hx ?_
    obtain ⟨g, cap, hv, h1, h2⟩ := own_some hown (by intro e; cases e)
    injection hv with hv1 hv2 hv3
    subst hv3
    refine h g0 cap0 w ?_ hb0 h1 h2
    have e := cells_both n 0 B E
    rw [show cellsOf 0 E = [] from rfl, List.append_nil] at e
    rw [← e]
    exact hown
  · refine wpList_append_own w hgd s x 22 ho base 5 i0 (.int .u8 0) 1 1 Try.underlying22 hi hz0 hz1 hz2 rfl (by omega) _ n _ hs hown x0 m m (cellsOf m E) hx (by rw [cellsOf_len]; omega) ?_ cellsOf_one (by unfold maxLen; omega) (by omega) hbase ?_
    · intro j u hj
      obtain ⟨hjn, rfl⟩ := cellsOf_at hj
      exact hx0 j hjn
    · intro v' w' hown' hgrow hne
      obtain ⟨g, cap, rfl, h1, h2⟩ := own_some hown' (fun e => by cases (hne.1 e).1)
      rw [cells_both] at hown'
      exact h g cap w' hown' (hb0.grown hgrow hbase (fun k hk => (hown.lt k hk).1)) h1 h2
end Go.Proofs.Qxb6604007a.Leaf
