import Derived.Test.Qxb6603346aModel
namespace Go.Proofs.Qxb6603346a.Leaf
open Go Go.RowKit Plain
set_option linter.unusedVariables false

set_option maxHeartbeats 1000000 in
theorem law_no (s : ByteArray) (p : Int) (w : World) (hb : 1048576 < s.size) :
    Calls Try.prog 3 #[.string s, .int .i64 p] w fun e w' => e = .returned (.bool true) ∧ Below w.heap.size w w' := by
  have K := hide (fun w => bytes5_no s p w hb)
  go_enter Try.func3, Try.ntmps3
  go_wp2_with (fail)
  refine (unhide K _).mono ?_
  rintro e w' ⟨rfl, rfl⟩
  go_wp2_with (fail)
  go_ret
  exact ⟨rfl, Below.refl _ _⟩

set_option maxHeartbeats 1000000 in
theorem law_out (s : ByteArray) (p : Int) (w : World) (hb : s.size ≤ 1048576) (hp : p < 0 ∨ (s.size : Int) < p) :
    Calls Try.prog 3 #[.string s, .int .i64 p] w fun e w' => e = .returned (.bool true) ∧ Below w.heap.size w w' := by
  have K := hide (fun w => bytes5 s p w hb)
  rcases hp with hp | hp
  · go_enter Try.func3, Try.ntmps3
    go_wp2_with (fail)
    refine (unhide K _).mono ?_
    rintro e w' ⟨rfl, rfl⟩
    go_wp2_with (fail)
    go_ret
    exact ⟨rfl, Below.refl _ _⟩
  · have hp0 : 0 ≤ p := by omega
    go_enter Try.func3, Try.ntmps3
    go_wp2_with (fail)
    refine (unhide K _).mono ?_
    rintro e w' ⟨rfl, rfl⟩
    go_wp2_with (fail)
    go_ret
    exact ⟨rfl, Below.refl _ _⟩

set_option maxHeartbeats 1000000 in
theorem law_quote (s : ByteArray) (k : Nat) (w : World) (hb : s.size ≤ 1048576) (hk : k < s.size) (hq : bAt s k = 34) :
    Calls Try.prog 3 #[.string s, .int .i64 (k : Int)] w fun e w' => e = .returned (.bool true) ∧ Below w.heap.size w w' := by
  have K := hide (fun w => bytes5 s k w hb)
  have h34 : (((s[k].toNat : Nat) : Int) == 34) = true := by have := byte_eq (c := 34) hk hq; simp [this]
  have k1 : Hid (∀ w, Calls Try.prog 6 #[.string s, .int .i64 (k : Int)] w fun e w' => e = .returned (.tuple #[.string ⟨(val s (k + 1)).1.toArray⟩, .int .i64 (((val s (k + 1)).2 : Nat) : Int)]) ∧ Below w.heap.size w w') := by
    intro w
    have := scanner (w := w) hb (Nat.le_of_lt hk)
    unfold answer at this
    rw [if_pos ⟨hk, hq⟩] at this
    exact this
  have k2 : Hid (∀ w, Calls Try.prog 7 #[.string s, .int .i64 (k : Int)] w fun e w' => e = .returned (.tuple #[.string ⟨(val s (k + 1)).1.toArray⟩, .int .i64 (((val s (k + 1)).2 : Nat) : Int)]) ∧ Below w.heap.size w w') := by
    intro w
    have := model (w := w) hb hk
    rw [val_model s _ (k + 1) (Nat.le_refl _) (by omega)]
    exact this
  obtain ⟨v, hv⟩ : ∃ v : ByteArray, v = ⟨(val s (k + 1)).1.toArray⟩ := ⟨_, rfl⟩
  obtain ⟨p, hp⟩ : ∃ p, p = (val s (k + 1)).2 := ⟨_, rfl⟩
  rw [← hv, ← hp] at k1 k2
  clear hv hp hq
  go_enter Try.func3, Try.ntmps3
  go_wp2_with (fail)
  refine (unhide K _).mono ?_
  rintro e w' ⟨rfl, rfl⟩
  go_wp2_with (fail)
  refine (unhide k1 _).mono ?_
  rintro e w1 ⟨rfl, b1⟩
  have B1 := hide b1
  clear b1
  go_wp2_with (fail)
  refine (unhide k2 _).mono ?_
  rintro e w2 ⟨rfl, b2⟩
  have B2 := hide b2
  clear b2
  go_wp2_with (fail)
  go_ret
  exact ⟨rfl, (unhide B1).trans ((unhide B2).mono (unhide B1).size)⟩

set_option maxHeartbeats 1000000 in
theorem law_token (s : ByteArray) (k : Nat) (w : World) (hb : s.size ≤ 1048576) (hk : k ≤ s.size) (hq : k = s.size ∨ bAt s k ≠ 34) :
    Calls Try.prog 3 #[.string s, .int .i64 (k : Int)] w fun e w' => e = .returned (.bool true) ∧ Below w.heap.size w w' := by
  have K := hide (fun w => bytes5 s k w hb)
  have k1 : Hid (∀ w, Calls Try.prog 6 #[.string s, .int .i64 (k : Int)] w fun e w' => e = .returned (.tuple #[.string (s.extract k (run s k)), .int .i64 ((run s k : Nat) : Int)]) ∧ Below w.heap.size w w') := by
    intro w
    have := scanner (w := w) hb hk
    unfold answer at this
    rw [if_neg (by rintro ⟨h1, h2⟩; rcases hq with h | h; omega; exact h h2)] at this
    exact this
  obtain ⟨hr1, hr2, hr3, hr4⟩ := run_spec s _ k (Nat.le_refl _) hk
  obtain ⟨r, hr⟩ : ∃ r, r = run s k := ⟨_, rfl⟩
  rw [← hr] at k1 hr1 hr2 hr3 hr4
  clear hr
  have HIN := hide hr3
  have HEND := hide hr4
  clear hr3 hr4
  have q1 : decide (1048576 < (s.size : Int)) = false := by simp; omega
  have q2 : decide ((k : Int) < 0) = false := by simp
  have q3 : decide ((s.size : Int) < (k : Int)) = false := by simp; omega
  have q6 : decide (r < k) = false := by simp; omega
  have q7 : decide (s.size < r) = false := by simp; omega
  have q8 : decide (s.size < k) = false := by simp; omega
  have q4 : decide ((r : Int) < (k : Int)) = false := by simp; omega
  have q5 : decide ((s.size : Int) < (r : Int)) = false := by simp; omega
  by_cases hks : k < s.size
  · have h34 : (((s[k].toNat : Nat) : Int) == 34) = false := by
      have := byte_ne (c := 34) hks (hq.resolve_left (by omega))
      simpa using this
    clear hq
    go_enter Try.func3, Try.ntmps3
    go_wp2_with (fail)
    refine (unhide K _).mono ?_
    rintro e w' ⟨rfl, rfl⟩
    go_wp2_with (fail)
    refine (unhide k1 _).mono ?_
    rintro e w1 ⟨rfl, b1⟩
    have B1 := hide b1
    clear b1
    go_wp2_with (fail)
    go_loopg [10] (r - k) (fun g v wr => ∃ j, g = r - j ∧ v = .int .i64 (j : Int) ∧ k ≤ j ∧ j ≤ r ∧ wr = w1)
    case atStart => exact ⟨k, rfl, rfl, by omega, by omega, rfl⟩
    case round =>
      obtain ⟨j, rfl, rfl, hj1, hj2, rfl⟩ := hrel
      by_cases hlt : j < r
      · have hls : j < s.size := by omega
        have KT := hide (fun w => tchar_is (c := ((s[j].toNat : Nat) : Int)) (b := true) (by rw [← at_byte hls]; exact unhide HIN j hj1 hlt) w)
        go_wp2_with (fail)
        refine (unhide KT _).mono ?_
        rintro e w2 ⟨rfl, rfl⟩
        go_wp2_with (fail)
        go_roundg (r - (j + 1))
        case measure => omega
        case rel => exact ⟨j + 1, rfl, by simp, by omega, by omega, rfl⟩
      · by_cases hrs : r < s.size
        · have KT := hide (fun w => tchar_is (c := ((s[r].toNat : Nat) : Int)) (b := false) (by rw [← at_byte hrs]; exact (unhide HEND).resolve_left (by omega)) w)
          have hne : ((r : Int) == (s.size : Int)) = false := by simp; omega
          go_wp2_with (fail)
          refine (unhide KT _).mono ?_
          rintro e w2 ⟨rfl, rfl⟩
          go_wp2_with (fail)
          go_ret
          exact ⟨rfl, unhide B1⟩
        · have hne : ((r : Int) == (s.size : Int)) = true := by simp; omega
          go_wp2_with (fail)
          go_ret
          exact ⟨rfl, unhide B1⟩
  · clear hq
    go_enter Try.func3, Try.ntmps3
    go_wp2_with (fail)
    refine (unhide K _).mono ?_
    rintro e w' ⟨rfl, rfl⟩
    go_wp2_with (fail)
    refine (unhide k1 _).mono ?_
    rintro e w1 ⟨rfl, b1⟩
    have B1 := hide b1
    clear b1
    go_wp2_with (fail)
    go_loopg [10] (r - k) (fun g v wr => ∃ j, g = r - j ∧ v = .int .i64 (j : Int) ∧ k ≤ j ∧ j ≤ r ∧ wr = w1)
    case atStart => exact ⟨k, rfl, rfl, by omega, by omega, rfl⟩
    case round =>
      obtain ⟨j, rfl, rfl, hj1, hj2, rfl⟩ := hrel
      by_cases hlt : j < r
      · have hls : j < s.size := by omega
        have KT := hide (fun w => tchar_is (c := ((s[j].toNat : Nat) : Int)) (b := true) (by rw [← at_byte hls]; exact unhide HIN j hj1 hlt) w)
        go_wp2_with (fail)
        refine (unhide KT _).mono ?_
        rintro e w2 ⟨rfl, rfl⟩
        go_wp2_with (fail)
        go_roundg (r - (j + 1))
        case measure => omega
        case rel => exact ⟨j + 1, rfl, by simp, by omega, by omega, rfl⟩
      · by_cases hrs : r < s.size
        · have KT := hide (fun w => tchar_is (c := ((s[r].toNat : Nat) : Int)) (b := false) (by rw [← at_byte hrs]; exact (unhide HEND).resolve_left (by omega)) w)
          have hne : ((r : Int) == (s.size : Int)) = false := by simp; omega
          go_wp2_with (fail)
          refine (unhide KT _).mono ?_
          rintro e w2 ⟨rfl, rfl⟩
          go_wp2_with (fail)
          go_ret
          exact ⟨rfl, unhide B1⟩
        · have hne : ((r : Int) == (s.size : Int)) = true := by simp; omega
          go_wp2_with (fail)
          go_ret
          exact ⟨rfl, unhide B1⟩

theorem walk (s : ByteArray) (p : Int) (w : World) : Calls Try.prog 3 #[.string s, .int .i64 p] w fun e w' => e = .returned (.bool true) ∧ Below w.heap.size w w' := by
  by_cases h1 : 1048576 < s.size
  · exact law_no s p w h1
  · by_cases h2 : p < 0 ∨ (s.size : Int) < p
    · exact law_out s p w (by omega) h2
    · obtain ⟨k, rfl⟩ : ∃ k : Nat, p = k := ⟨p.toNat, by omega⟩
      by_cases h3 : k < s.size ∧ bAt s k = 34
      · exact law_quote s k w (by omega) h3.1 h3.2
      · exact law_token s k w (by omega) (by omega) ((Nat.lt_or_eq_of_le (show k ≤ s.size by omega)).elim (fun l => Or.inr fun h => h3 ⟨l, h⟩) Or.inl)
end Go.Proofs.Qxb6603346a.Leaf
