import Derived.Test.Qxb6602520aModel
namespace Go.Proofs.Qxb6602520a.Leaf
open Go Go.RowKit Plain
set_option linter.unusedVariables false

theorem model_is {s : ByteArray} {p q : Nat} (h : skip s p = q) (w : World) (hs : s.size ≤ 1048576) :
    Calls Try.prog 17 #[.string s, .int .i64 p] w fun e w' => e = .returned (.int .i64 q) ∧ Grown w w' := by
  subst h
  by_cases hp : p < s.size
  · exact model_any s p w hs hp
  · rw [skip_past s p (by omega)]
    exact (model_past s p w hs (by omega)).mono fun e w' ⟨he, hw⟩ => ⟨he, by rw [hw]; exact Grown.refl _⟩

set_option maxHeartbeats 1000000 in
theorem match_yes (s : ByteArray) (p : Nat) (w : World) (hs : s.size ≤ 1048576) (hp : p ≤ 9223372036854775807) :
    Calls Try.prog 6 #[.string s, .int .i64 p] w fun e w' => e = .returned (.bool true) ∧ Grown w w' := by
  obtain ⟨q, hq⟩ : ∃ q, q = skip s p := ⟨_, rfl⟩
  have HQ := hide hq.symm
  clear hq
  go_enter Try.func6, Try.ntmps6
  go_wp2_with (first | (go_at_call 15; refine (bytes15 _ _ _ hs).mono ?_; rintro e w' ⟨rfl, rfl⟩))
  refine (zz_is (unhide HQ) _ hs (by omega)).mono ?_
  rintro e w1 ⟨rfl, g1⟩
  have G1 := hide g1
  clear g1
  go_wp2_with (fail)
  refine (model_is (unhide HQ) _ hs).mono ?_
  rintro e w2 ⟨rfl, g2⟩
  have G2 := hide g2
  clear g2
  go_wp2_with (fail)
  go_ret
  exact ⟨rfl, Grown.tr (unhide G1) (unhide G2)⟩

set_option maxHeartbeats 400000 in
theorem match_long (s : ByteArray) (p : Int) (w : World) (hs : 1048576 < s.size) :
    Calls Try.prog 6 #[.string s, .int .i64 p] w fun e w' => e = .returned (.bool true) ∧ Grown w w' := by
  go_enter Try.func6, Try.ntmps6
  go_wp2_with (first | (go_at_call 15; refine (bytes15_no _ _ _ hs).mono ?_; rintro e w' ⟨rfl, rfl⟩))
  go_ret
  exact ⟨rfl, Grown.refl _⟩
set_option maxHeartbeats 400000 in
theorem match_neg (s : ByteArray) (p : Int) (w : World) (hs : s.size ≤ 1048576) (hp : p < 0) :
    Calls Try.prog 6 #[.string s, .int .i64 p] w fun e w' => e = .returned (.bool true) ∧ Grown w w' := by
  go_enter Try.func6, Try.ntmps6
  go_wp2_with (first | (go_at_call 15; refine (bytes15 _ _ _ hs).mono ?_; rintro e w' ⟨rfl, rfl⟩))
  go_ret
  exact ⟨rfl, Grown.refl _⟩

end Go.Proofs.Qxb6602520a.Leaf
