import Derived.Test.Qxb6603346aValueQ
namespace Go.Proofs.Qxb6603346a.Leaf
open Go Go.RowKit Plain
set_option linter.unusedVariables false

/-- What the scanner's value answers: the text and the place. -/
def answer (s : ByteArray) (k : Nat) : ByteArray × Nat :=
  if k < s.size ∧ bAt s k = 34 then (⟨(val s (k + 1)).1.toArray⟩, (val s (k + 1)).2) else (s.extract k (run s k), run s k)

theorem value_all {s : ByteArray} {k P : Nat} {w : World} (h : Sc w P s k) (hs : s.size ≤ 1048576) (hk : k ≤ s.size) :
    Calls Try.prog 11 #[.pointer (some ⟨P, 0, none⟩)] w fun e w' => e = .returned (.string (answer s k).1) ∧ (w'.cell? ⟨P, 1, none⟩ = some (.int .i64 (((answer s k).2 : Nat) : Int)) ∧ Below P w w') := by
  unfold answer
  by_cases hq : k < s.size ∧ bAt s k = 34
  · rw [if_pos hq]; exact value_q h hs hq.1 hq.2
  · rw [if_neg hq]; exact value_t h hs hk ((Nat.lt_or_eq_of_le hk).elim (fun l => Or.inr fun h => hq ⟨l, h⟩) Or.inl)

set_option maxHeartbeats 400000 in
theorem scanner {s : ByteArray} {k : Nat} {w : World} (hs : s.size ≤ 1048576) (hk : k ≤ s.size) :
    Calls Try.prog 6 #[.string s, .int .i64 (k : Int)] w fun e w' => e = .returned (.tuple #[.string (answer s k).1, .int .i64 (((answer s k).2 : Nat) : Int)]) ∧ Below w.heap.size w w' := by
  have K : Hid (∀ W : World, Sc W w.heap.size s k → Calls Try.prog 11 #[.pointer (some ⟨w.heap.size, 0, none⟩)] W fun e w' => e = .returned (.string (answer s k).1) ∧ (w'.cell? ⟨w.heap.size, 1, none⟩ = some (.int .i64 (((answer s k).2 : Nat) : Int)) ∧ Below w.heap.size W w')) := fun W h => value_all h hs hk
  obtain ⟨v, hv⟩ : ∃ v, v = (answer s k).1 := ⟨_, rfl⟩
  obtain ⟨p, hp⟩ : ∃ p, p = (answer s k).2 := ⟨_, rfl⟩
  rw [← hv, ← hp] at K
  rw [← hv, ← hp]
  clear hv hp
  go_enter Try.func6, Try.ntmps6
  go_wp2_with (fail)
  refine (unhide K _ ?sc).mono ?_
  case sc => exact ⟨Lib.cell_of_heap (heap_alloc_new _ _) 0, Lib.cell_of_heap (heap_alloc_new _ _) 1, Lib.frozen_of_heap (heap_alloc_new _ _) 1, by simp⟩
  rintro e w1 ⟨rfl, h1, h2⟩
  have B := hide h2
  clear h2
  go_wp2_with (fail)
  go_quiet (fail)
  go_wp2
  go_ret2
  refine ⟨rfl, ?_⟩
  exact below_drewN (((Below.refl _ w).alloc (Nat.le_refl _) _).trans (unhide B)) _
end Go.Proofs.Qxb6603346a.Leaf
