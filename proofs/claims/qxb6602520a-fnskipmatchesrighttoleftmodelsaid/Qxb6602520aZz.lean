import Derived.Test.Qxb6602520aSkip
import Derived.ProofKit
namespace Go.Proofs.Qxb6602520a.Leaf
open Go Go.RowKit Plain
set_option linter.unusedVariables false

set_option maxHeartbeats 1000000 in
theorem zz_any (s : ByteArray) (p : Nat) (w : World) (hs : s.size ≤ 1048576) (hp : p ≤ 9223372036854775807) :
    Calls Try.prog 16 #[.string s, .int .i64 p] w fun e w' => e = .returned (.int .i64 (skip s p)) ∧ ∃ n, w' = (w.alloc (.cells #[.string s, .int .i64 (skip s p)] 43)).drewN n := by
  go_enter Try.func16, Try.ntmps16
  go_wp2_with (first | (go_at_call 28; refine (skip_any s p w hs hp).mono ?_; rintro e w' ⟨rfl, n, rfl⟩))
  go_ret
  exact ⟨rfl, _, rfl⟩

theorem grown_zz {W w' : World} (h : Grown W w') (c : Array Value) (t : TypeId) (n : Nat) : Grown W ((w'.alloc (.cells c t)).drewN n) := h.alloc c t

theorem zz_is {s : ByteArray} {p q : Nat} (h : skip s p = q) (w : World) (hs : s.size ≤ 1048576) (hp : p ≤ 9223372036854775807) :
    Calls Try.prog 16 #[.string s, .int .i64 p] w fun e w' => e = .returned (.int .i64 q) ∧ Grown w w' := by
  subst h
  exact (zz_any s p w hs hp).mono fun e w' ⟨he, n, hw⟩ => ⟨he, by rw [hw]; exact grown_zz (Grown.refl _) _ _ _⟩
theorem isBlank_is {c : Int} {b : Bool} (h : sp c = b) (w : World) :
    Calls Try.prog 19 #[.int .u8 c] w fun e w' => e = .returned (.bool b) ∧ w' = w := by
  subst h; exact isBlank_any c w
theorem comment_is {s : ByteArray} {i : Nat} {b : Bool} (hb : cmtAt s i = b) (w : World) (h : s.size ≤ 1048576) (hi : i ≤ s.size) :
    Calls Try.prog 20 #[.string s, .int .i64 i] w fun e w' => e = .returned (.bool b) ∧ w' = w := by
  subst hb; exact comment_any s i w h hi
theorem Grown.tr {a b c : World} (h1 : Grown a b) (h2 : Grown b c) : Grown a c :=
  ⟨World.keptBut_trans h1.1 h2.1, fun x => (h2.2.1 x).trans (h1.2.1 x), Nat.le_trans h1.2.2 h2.2.2⟩

set_option maxHeartbeats 1000000 in
theorem stops_yes (s : ByteArray) (p : Nat) (w : World) (hs : s.size ≤ 1048576) (hp : p ≤ s.size) :
    Calls Try.prog 7 #[.string s, .int .i64 p] w fun e w' => e = .returned (.bool true) ∧ Grown w w' := by
  obtain ⟨h1, h2, h3⟩ := skip_spec s _ p (Nat.le_refl _) hp
  have hid := skip_idem s p hp
  obtain ⟨q, hq⟩ : ∃ q, q = skip s p := ⟨_, rfl⟩
  rw [← hq] at h1 h2 h3 hid
  have HQ := hide hq.symm
  have HI := hide hid
  clear hq hid
  by_cases he : q = s.size
  · have he' : s.size ≤ q := by omega
    clear h3 he
    go_enter Try.func7, Try.ntmps7
    go_wp2_with (first | (go_at_call 18; refine (bytes18 _ _ _ hs).mono ?_; rintro e w' ⟨rfl, rfl⟩))
    refine (zz_is (unhide HQ) _ hs (by omega)).mono ?_
    rintro e w1 ⟨rfl, g1⟩
    have G1 := hide g1
    clear g1
    go_wp2_with (fail)
    refine (zz_is (unhide HI) _ hs (by omega)).mono ?_
    rintro e w2 ⟨rfl, g2⟩
    have G2 := hide g2
    clear g2
    go_wp2_with (fail)
    go_ret
    exact ⟨rfl, Grown.tr (unhide G1) (unhide G2)⟩
  · have h4 : q < s.size := by omega
    obtain ⟨h5, h6⟩ := h3.resolve_left he
    rw [byteAt_lt h4] at h5
    have H5 := hide h5
    have H6 := hide h6
    clear h5 h6 h3
    go_enter Try.func7, Try.ntmps7
    go_wp2_with (first | (go_at_call 18; refine (bytes18 _ _ _ hs).mono ?_; rintro e w' ⟨rfl, rfl⟩))
    refine (zz_is (unhide HQ) _ hs (by omega)).mono ?_
    rintro e w1 ⟨rfl, g1⟩
    have G1 := hide g1
    clear g1
    go_wp2_with (fail)
    refine (zz_is (unhide HI) _ hs (by omega)).mono ?_
    rintro e w2 ⟨rfl, g2⟩
    have G2 := hide g2
    clear g2
    go_wp2_with (first | (go_at_call 19; refine (isBlank_is (unhide H5) _).mono ?_; rintro e w' ⟨rfl, rfl⟩) | (go_at_call 20; refine (comment_is (unhide H6) _ hs (by omega)).mono ?_; rintro e w' ⟨rfl, rfl⟩))
    go_ret
    exact ⟨rfl, Grown.tr (unhide G1) (unhide G2)⟩

set_option maxHeartbeats 400000 in
theorem stops_long (s : ByteArray) (p : Int) (w : World) (hs : 1048576 < s.size) :
    Calls Try.prog 7 #[.string s, .int .i64 p] w fun e w' => e = .returned (.bool true) ∧ Grown w w' := by
  go_enter Try.func7, Try.ntmps7
  go_wp2_with (first | (go_at_call 18; refine (bytes18_no _ _ _ hs).mono ?_; rintro e w' ⟨rfl, rfl⟩))
  go_ret
  exact ⟨rfl, Grown.refl _⟩
set_option maxHeartbeats 400000 in
theorem stops_out (s : ByteArray) (p : Int) (w : World) (hs : s.size ≤ 1048576) (hp : p < 0 ∨ (s.size : Int) < p) :
    Calls Try.prog 7 #[.string s, .int .i64 p] w fun e w' => e = .returned (.bool true) ∧ Grown w w' := by
  rcases hp with hp | hp
  · go_enter Try.func7, Try.ntmps7
    go_wp2_with (first | (go_at_call 18; refine (bytes18 _ _ _ hs).mono ?_; rintro e w' ⟨rfl, rfl⟩))
    go_ret
    exact ⟨rfl, Grown.refl _⟩
  · have h0 : 0 ≤ p := by omega
    go_enter Try.func7, Try.ntmps7
    go_wp2_with (first | (go_at_call 18; refine (bytes18 _ _ _ hs).mono ?_; rintro e w' ⟨rfl, rfl⟩))
    go_ret
    exact ⟨rfl, Grown.refl _⟩

end Go.Proofs.Qxb6602520a.Leaf
