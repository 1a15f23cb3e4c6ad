import Derived.Test.Qxb6602520aZz
import Derived.Deep.OwnRows
namespace Go.Proofs.Qxb6602520a.Leaf
open Go Go.RowKit Plain
set_option linter.unusedVariables false

theorem info3 : (Try.prog.info? 3).map (fun i => (i.zero, i.size, i.bytes)) = some (some (.int .i64 0), 1, 8) := by kernel_rfl

set_option maxHeartbeats 400000 in
theorem model_past (s : ByteArray) (p : Int) (w : World) (hs : s.size ≤ 1048576) (hp : (s.size : Int) ≤ p) :
    Calls Try.prog 17 #[.string s, .int .i64 p] w fun e w' => e = .returned (.int .i64 p) ∧ w' = w := by
  go_enter Try.func17, Try.ntmps17
  go_wp2
  go_ret
  exact ⟨rfl, rfl⟩

/-- What the row 'nextNL' holds from place k on. -/
def NlFrom (s : ByteArray) (k : Nat) (A : Array Value) : Prop := A.size = s.size + 1 ∧ ∀ j, k ≤ j → j ≤ s.size → A[j]? = some (.int .i64 (nl s j))
/-- What the row 'stop' holds from place k on. -/
def StFrom (s : ByteArray) (k : Nat) (A : Array Value) : Prop := A.size = s.size + 1 ∧ ∀ j, k ≤ j → j ≤ s.size → A[j]? = some (.int .i64 (skip s j))

theorem size_made (n : Nat) : (madeCells #[.int .i64 0] n).size = n := size_madeCells _ _
theorem nl_start (s : ByteArray) : NlFrom s s.size ((madeCells #[.int .i64 0] (s.size + 1)).setIfInBounds s.size (.int .i64 (-1))) := by
  refine ⟨by simp [size_made], fun j h1 h2 => ?_⟩
  obtain rfl : j = s.size := by omega
  rw [nl_end s _ (Nat.le_refl _), Array.getElem?_setIfInBounds_self_of_lt (by rw [size_made]; omega)]
theorem st_start (s : ByteArray) : StFrom s s.size ((madeCells #[.int .i64 0] (s.size + 1)).setIfInBounds s.size (.int .i64 s.size)) := by
  refine ⟨by simp [size_made], fun j h1 h2 => ?_⟩
  obtain rfl : j = s.size := by omega
  rw [skip_past s _ (Nat.le_refl _), Array.getElem?_setIfInBounds_self_of_lt (by rw [size_made]; omega)]
theorem nl_put {s : ByteArray} {k : Nat} {A : Array Value} {v : Int} (h : NlFrom s (k + 1) A) (hk : k < s.size) (hv : nl s k = v) : NlFrom s k (A.setIfInBounds k (.int .i64 v)) := by
  refine ⟨by rw [Array.size_setIfInBounds]; exact h.1, fun j h1 h2 => ?_⟩
  by_cases hj : j = k
  · subst hj; rw [hv, Array.getElem?_setIfInBounds_self_of_lt (by rw [h.1]; omega)]
  · rw [Array.getElem?_setIfInBounds_ne (by omega)]; exact h.2 j (by omega) h2
theorem st_put {s : ByteArray} {k : Nat} {A : Array Value} {v : Int} (h : StFrom s (k + 1) A) (hk : k < s.size) (hv : (skip s k : Int) = v) : StFrom s k (A.setIfInBounds k (.int .i64 v)) := by
  refine ⟨by rw [Array.size_setIfInBounds]; exact h.1, fun j h1 h2 => ?_⟩
  by_cases hj : j = k
  · subst hj; rw [hv, Array.getElem?_setIfInBounds_self_of_lt (by rw [h.1]; omega)]
  · rw [Array.getElem?_setIfInBounds_ne (by omega)]; exact h.2 j (by omega) h2
theorem some_at {A : Array Value} {k n : Nat} (h : A.size = n) (hk : k < n) : ∃ v, A[k]? = some v := by
  subst h; exact ⟨_, Array.getElem?_eq_getElem hk⟩

set_option maxHeartbeats 2000000 in
theorem model_any (s : ByteArray) (p : Nat) (w : World) (hs : s.size ≤ 1048576) (hp : p < s.size) :
    Calls Try.prog 17 #[.string s, .int .i64 p] w fun e w' => e = .returned (.int .i64 (skip s p)) ∧ Grown w w' := by
  have hmk := run_make_row' (P := Try.prog) 48 3 (.int .i64 0) 8 Try.underlying48 info3 rfl .i64 .i64 (s.size + 1) (by omega) (by omega)
  rw [show ((s.size + 1 : Nat) : Int) = (s.size : Int) + 1 from by omega] at hmk
  have hmz : (madeCells #[.int .i64 0] (s.size + 1))[s.size]? = some (.int .i64 0) := by simp [madeCells, Nat.mod_one]
  have hpd : decide (s.size ≤ p) = false := by simp; omega
  go_enter Try.func17, Try.ntmps17
  go_wp2
  clear hpd
  go_loopg [7] s.size (fun g i wr => ∃ A : Array Value, i = .int .i64 ((g : Int) - 1) ∧ g ≤ s.size ∧ NlFrom s g A ∧ wr = w.alloc (.cells A 3))
  case atStart => exact ⟨_, rfl, Nat.le_refl _, nl_start s, rfl⟩
  case round =>
    obtain ⟨A, hi, hg, hA, rfl⟩ := hrel
    cases gk with
    | succ k =>
      obtain ⟨v0, h0⟩ := some_at hA.1 (show k < s.size + 1 from by omega)
      have h1 : A[k + 1]? = some (.int .i64 (nl s (k + 1))) := hA.2 (k + 1) (Nat.le_refl _) (by omega)
      have HA := hide hA
      rw [show ((k + 1 : Nat) : Int) - 1 = (k : Int) from by omega] at hi
      subst hi
      clear hA hmk hmz
      have hk : k < s.size := by omega
      cases hc : (((s[k].toNat : Nat) : Int) == 10) with
      | true =>
        have HC := hide hc
        go_wp2
        clear hc
        go_roundg k
        case measure => omega
        case rel => exact ⟨_, rfl, by omega, nl_put (unhide HA) hk (by rw [nl_eq s k hk, byteAt_lt hk, unhide HC]; rfl), rfl⟩
      | false =>
        have HC := hide hc
        go_wp2
        clear hc
        go_roundg k
        case measure => omega
        case rel => exact ⟨_, rfl, by omega, nl_put (unhide HA) hk (by rw [nl_eq s k hk, byteAt_lt hk, unhide HC]; rfl), rfl⟩
    | zero =>
      have hi : _ = Value.int .i64 (-1) := hi
      subst hi
      have HA := hide hA
      clear hA
      go_wp2
      clear hmk hmz
      go_loopg [9] s.size (fun g i wr => ∃ B : Array Value, i = .int .i64 ((g : Int) - 1) ∧ g ≤ s.size ∧ StFrom s g B ∧ wr = (w.alloc (.cells A 3)).alloc (.cells B 3))
      case atStart => exact ⟨_, rfl, Nat.le_refl _, st_start s, rfl⟩
      case round =>
        obtain ⟨B, hi, hg, hB, rfl⟩ := hrel
        cases gk with
        | succ k =>
          obtain ⟨v0, h0⟩ := some_at hB.1 (show k < s.size + 1 from by omega)
          have HB := hide hB
          rw [show ((k + 1 : Nat) : Int) - 1 = (k : Int) from by omega] at hi
          subst hi
          have hk : k < s.size := by omega
          cases hc : sp ((s[k].toNat : Nat) : Int) with
          | true =>
            have h1 : B[k + 1]? = some (.int .i64 (skip s (k + 1))) := hB.2 (k + 1) (Nat.le_refl _) (by omega)
            have HC := hide hc
            clear hc hB
            go_wp2_with (first | (go_at_call 19; refine (isBlank_is (unhide HC) _).mono ?_; rintro e w' ⟨rfl, hw⟩; subst hw))
            go_roundg k
            case measure => omega
            case rel => exact ⟨_, rfl, by omega, st_put (unhide HB) hk (by rw [skip_blank hk (by rw [byteAt_lt hk]; exact unhide HC)]), rfl⟩
          | false =>
            have HC := hide hc
            clear hc
            cases hm : cmtAt s k with
            | false =>
              have HM := hide hm
              clear hm hB
              go_wp2_with (first | (go_at_call 19; refine (isBlank_is (unhide HC) _).mono ?_; rintro e w' ⟨rfl, hw⟩; subst hw) | (go_at_call 20; refine (comment_is (unhide HM) _ hs (by omega)).mono ?_; rintro e w' ⟨rfl, hw⟩; subst hw))
              go_roundg k
              case measure => omega
              case rel => exact ⟨_, rfl, by omega, st_put (unhide HB) hk (by rw [skip_tok hk (by rw [byteAt_lt hk]; exact unhide HC) (unhide HM)]), rfl⟩
            | true =>
              have HM := hide hm
              clear hm
              have hn := nl_bd s k
              have hA0 : A[k]? = some (.int .i64 (nl s k)) := (unhide HA).2 k (by omega) (by omega)
              by_cases hneg : nl s k < 0
              · have en : nl s k = -1 := by omega
                have EN := hide en
                rw [en] at hA0
                clear hn hneg en hB
                go_wp2_with (first | (go_at_call 19; refine (isBlank_is (unhide HC) _).mono ?_; rintro e w' ⟨rfl, hw⟩; subst hw) | (go_at_call 20; refine (comment_is (unhide HM) _ hs (by omega)).mono ?_; rintro e w' ⟨rfl, hw⟩; subst hw))
                go_roundg k
                case measure => omega
                case rel => exact ⟨_, rfl, by omega, st_put (unhide HB) hk (by rw [skip_cmt_end hk (by rw [byteAt_lt hk]; exact unhide HC) (unhide HM) (by rw [unhide EN]; decide)]), rfl⟩
              · obtain ⟨o, ho⟩ : ∃ o : Nat, nl s k = o := ⟨(nl s k).toNat, by omega⟩
                have ho1 : k ≤ o := by omega
                have ho2 : o < s.size := by omega
                have EN := hide ho
                rw [ho] at hA0
                have h1 : B[o + 1]? = some (.int .i64 (skip s (o + 1))) := hB.2 (o + 1) (by omega) (by omega)
                clear hn hneg ho hB
                go_wp2_with (first | (go_at_call 19; refine (isBlank_is (unhide HC) _).mono ?_; rintro e w' ⟨rfl, hw⟩; subst hw) | (go_at_call 20; refine (comment_is (unhide HM) _ hs (by omega)).mono ?_; rintro e w' ⟨rfl, hw⟩; subst hw))
                go_roundg k
                case measure => omega
                case rel => exact ⟨_, rfl, by omega, st_put (unhide HB) hk (by rw [skip_cmt_nl hk (by rw [byteAt_lt hk]; exact unhide HC) (unhide HM) (by rw [unhide EN]; omega), unhide EN]; rfl), rfl⟩
        | zero =>
          have hi : _ = Value.int .i64 (-1) := hi
          subst hi
          have h1 : B[p]? = some (.int .i64 (skip s p)) := hB.2 p (by omega) (by omega)
          clear hB
          go_wp2
          go_ret
          exact ⟨rfl, ((Grown.refl _).alloc _ _).alloc _ _⟩
end Go.Proofs.Qxb6602520a.Leaf
