import Derived.Test.Qxb6602520aLeaf
import Derived.BigQuiet
import Derived.Deep.QuietTactic
import Derived.Deep.LoopGhost
import Derived.Deep.Light
namespace Go.Proofs.Qxb6602520a.Leaf
open Go Go.RowKit Plain
set_option linter.unusedVariables false

theorem hide {p : Prop} (h : p) : Hid p := h
theorem unhide {p : Prop} (h : Hid p) : p := h

theorem quiet_same {P : Program} {f : FuncId} {args : Array Value} {W : World} {X : Nat → World} {v : Value}
    (h : Calls P f args W fun e w' => e = .returned v ∧ w' = W) (hX : ∃ m, W = X m) : Calls P f args W fun e w'' => e = .returned v ∧ ∃ m, w'' = X m :=
  h.mono fun _ _ ⟨he, hm⟩ => ⟨he, hX.elim fun m e => ⟨m, hm.trans e⟩⟩

theorem isSpace_is {c : Int} {b : Bool} (h : sp c = b) (w : World) :
    Calls Try.prog 32 #[.int .u8 c] w fun e w' => e = .returned (.bool b) ∧ w' = w := by
  subst h; exact isSpace_any c w
theorem rest2 {s : ByteArray} {k : Nat} (h2 : k + 2 < s.size) (hx : 2 < (s.extract k s.size).size) : (s.extract k s.size)[2]'hx = s[k + 2] := by
  simp [ByteArray.getElem_extract]
theorem isSpace_rest {s : ByteArray} {k : Nat} {b : Bool} (hx : 2 < (s.extract k s.size).size) (h : sp (((s.extract k s.size)[2]'hx).toNat : Int) = b) (w : World) :
    Calls Try.prog 32 #[.int .u8 (((s.extract k s.size)[2]'hx).toNat : Int)] w fun e w' => e = .returned (.bool b) ∧ w' = w := by
  subst h; exact isSpace_any _ w
theorem hasPrefix_is {s : ByteArray} {p : Nat} {b : Bool} (h : dash s p = b) (w : World) (hs : s.size ≤ 1048576) (hi : p ≤ s.size) :
    Calls Try.prog 33 #[.string (s.extract p s.size), .string ⟨#[45, 45]⟩] w fun e w' => e = .returned (.bool b) ∧ w' = w := by
  subst h; exact hasPrefix_any s p w hs hi
theorem indexByte_is {s : ByteArray} {p : Nat} {r : Int} (h : Lib.indexByte (s.data.toList.drop p) 10 = r) (w : World) :
    Calls Try.prog 34 #[.string (s.extract p s.size), .int .u8 10] w fun e w' => e = .returned (.int .i64 r) ∧ w' = w := by
  subst h; exact indexByte_any s p w

theorem put_pos (w : World) (a v x : Value) (m : Nat) : ((w.alloc (.cells #[a, v] 43)).drewN m).setCell ⟨w.heap.size, 1, none⟩ x = (w.alloc (.cells #[a, x] 43)).drewN m := by
  have e : ((w.alloc (.cells #[a, v] 43)).drewN m).setCell ⟨w.heap.size, 1, none⟩ x = ((w.alloc (.cells #[a, v] 43)).setCell ⟨w.heap.size, 1, none⟩ x).drewN m := rfl
  rw [e, World.setCell_alloc_at _ _ _ _ _ rfl]
  rfl

theorem dash_lt {s : ByteArray} {k : Nat} (h : dash s k = true) : k + 1 < s.size := by
  unfold dash at h; simp at h; omega
theorem cmt_of_nodash {s : ByteArray} {k : Nat} (h : dash s k = false) : cmtAt s k = false := by
  unfold cmtAt; unfold dash at h; rw [h]; rfl
theorem cmt_of_dash {s : ByteArray} {k : Nat} (h : dash s k = true) (h2 : k + 2 = s.size ∨ ∃ h : k + 2 < s.size, sp (s[k + 2].toNat : Int) = true) : cmtAt s k = true := by
  unfold cmtAt; unfold dash at h; rw [h]
  rcases h2 with h2 | ⟨h2, h3⟩
  · simp [h2]
  · rw [byteAt_lt h2, h3]; simp
theorem cmt_of_word {s : ByteArray} {k : Nat} (h2 : k + 2 < s.size) (h3 : sp (s[k + 2].toNat : Int) = false) : cmtAt s k = false := by
  unfold cmtAt; rw [byteAt_lt h2, h3, show decide (k + 2 = s.size) = false from by simp; omega]; simp

set_option maxHeartbeats 2000000 in
theorem skip_any (s : ByteArray) (p : Nat) (w : World) (hs : s.size ≤ 1048576) (hp : p ≤ 9223372036854775807) :
    Calls Try.prog 28 #[.pointer (some ⟨w.heap.size, 0, none⟩)] (w.alloc (.cells #[.string s, .int .i64 p] 43)) fun e w' => e = .returned (.tuple #[]) ∧ ∃ n, w' = (w.alloc (.cells #[.string s, .int .i64 (skip s p)] 43)).drewN n := by
  go_enter Try.func28, Try.ntmps28
  go_wp2
  go_loopg [2] (s.size + 1 - p) (fun g _ wr => ∃ k n : Nat, g = s.size + 1 - k ∧ k ≤ 9223372036854775807 ∧ Hid (skip s p = skip s k) ∧ wr = (w.alloc (.cells #[.string s, .int .i64 k] 43)).drewN n)
  case atStart => exact ⟨p, 0, rfl, hp, rfl, rfl⟩
  case round =>
    obtain ⟨k, n, rfl, hk, HS, rfl⟩ := hrel
    by_cases hlt : k < s.size
    · by_cases hsp : sp (s[k].toNat : Int) = true
      · have HSP := hide hsp
        clear hsp
        go_wp2
        go_quiet (fail)
        go_wp2
        go_quiet ((go_at_call 32; exact quiet_same (isSpace_is (unhide HSP) _) ⟨_, rfl⟩))
        go_wp2
        go_roundg (s.size + 1 - (k + 1))
        case measure => omega
        case rel => exact ⟨k + 1, _, rfl, by omega, (unhide HS).trans (skip_blank hlt (by rw [byteAt_lt hlt]; exact unhide HSP)), by rw [put_pos]; rfl⟩
      · have hsp : sp (s[k].toNat : Int) = false := by simpa using hsp
        have HSP := hide hsp
        clear hsp
        have HSB : sp (byteAt s k) = false := by rw [byteAt_lt hlt]; exact unhide HSP
        cases hd : dash s k with
        | false =>
          have HD := hide hd
          clear hd HSB
          go_wp2
          go_quiet (fail)
          go_wp2
          go_quiet ((go_at_call 32; exact quiet_same (isSpace_is (unhide HSP) _) ⟨_, rfl⟩))
          go_wp2
          go_quiet (fail)
          go_wp2_with (first | (go_at_call 33; refine (hasPrefix_is (unhide HD) _ hs (by omega)).mono ?_; rintro e w' ⟨rfl, rfl⟩))
          refine bodyPost_ret (v := .tuple #[]) (results_none rfl _ _ _) rfl ?_
          refine ⟨rfl, ?_⟩
          rw [unhide HS, skip_tok hlt (by rw [byteAt_lt hlt]; exact unhide HSP) (cmt_of_nodash (unhide HD))]
          exact ⟨_, rfl⟩
        | true =>
          have HD := hide hd
          clear hd
          have HB := hide HSB
          clear HSB
          by_cases h2 : k + 2 < s.size
          · have hx : 2 < (s.extract k s.size).size := by simp; omega
            cases h3 : sp (((s.extract k s.size)[2]'hx).toNat : Int) with
            | false =>
              have H3 := hide h3
              clear h3
              go_wp2
              go_quiet (fail)
              go_wp2
              go_quiet ((go_at_call 32; exact quiet_same (isSpace_is (unhide HSP) _) ⟨_, rfl⟩))
              go_wp2
              go_quiet (fail)
              go_wp2_with (first | (go_at_call 33; refine (hasPrefix_is (unhide HD) _ hs (by omega)).mono ?_; rintro e w' ⟨rfl, rfl⟩) | (go_at_call 32; refine (isSpace_rest hx (unhide H3) _).mono ?_; rintro e w' ⟨rfl, rfl⟩))
              refine bodyPost_ret (v := .tuple #[]) (results_none rfl _ _ _) rfl ?_
              refine ⟨rfl, ?_⟩
              rw [unhide HS, skip_tok hlt (unhide HB) (cmt_of_word h2 (by rw [← rest2 h2 hx]; exact unhide H3))]
              exact ⟨_, rfl⟩
            | true =>
              have H3 := hide h3
              clear h3
              rcases index_nl s _ k (Nat.le_refl _) with ⟨hn, hi⟩ | ⟨o, hn, hi⟩
              · have HN := hide hn
                have HI := hide hi
                clear hn hi
                go_wp2
                go_quiet (fail)
                go_wp2
                go_quiet ((go_at_call 32; exact quiet_same (isSpace_is (unhide HSP) _) ⟨_, rfl⟩))
                go_wp2
                go_quiet (fail)
                go_wp2_with (first | (go_at_call 33; refine (hasPrefix_is (unhide HD) _ hs (by omega)).mono ?_; rintro e w' ⟨rfl, rfl⟩) | (go_at_call 34; refine (indexByte_is (unhide HI) _).mono ?_; rintro e w' ⟨rfl, rfl⟩) | (go_at_call 32; refine (isSpace_rest hx (unhide H3) _).mono ?_; rintro e w' ⟨rfl, rfl⟩))
                go_roundg 1
                case measure => omega
                case rel => exact ⟨s.size, _, by omega, by omega, (unhide HS).trans ((skip_cmt_end hlt (unhide HB) (cmt_of_dash (unhide HD) (Or.inr ⟨h2, by rw [← rest2 h2 hx]; exact unhide H3⟩)) (by rw [unhide HN]; decide)).trans (skip_past s _ (Nat.le_refl _)).symm), by rw [put_pos]⟩
              · have HN := hide hn
                have HI := hide hi
                have ho : k + o < s.size := by have := nl_bd s k; omega
                clear hn hi
                go_wp2
                go_quiet (fail)
                go_wp2
                go_quiet ((go_at_call 32; exact quiet_same (isSpace_is (unhide HSP) _) ⟨_, rfl⟩))
                go_wp2
                go_quiet (fail)
                go_wp2_with (first | (go_at_call 33; refine (hasPrefix_is (unhide HD) _ hs (by omega)).mono ?_; rintro e w' ⟨rfl, rfl⟩) | (go_at_call 34; refine (indexByte_is (unhide HI) _).mono ?_; rintro e w' ⟨rfl, rfl⟩) | (go_at_call 32; refine (isSpace_rest hx (unhide H3) _).mono ?_; rintro e w' ⟨rfl, rfl⟩))
                go_roundg (s.size + 1 - (k + o + 1))
                case measure => omega
                case rel => exact ⟨k + o + 1, _, rfl, by omega, (unhide HS).trans ((skip_cmt_nl hlt (unhide HB) (cmt_of_dash (unhide HD) (Or.inr ⟨h2, by rw [← rest2 h2 hx]; exact unhide H3⟩)) (by rw [unhide HN]; omega)).trans (by rw [unhide HN, show ((k : Int) + o).toNat = k + o from by omega])), by rw [put_pos]; go_num⟩
          · have h2e : k + 2 = s.size := by have := dash_lt (unhide HD); omega
            have H2E := hide h2e
            clear h2e
            rcases index_nl s _ k (Nat.le_refl _) with ⟨hn, hi⟩ | ⟨o, hn, hi⟩
            · have HN := hide hn
              have HI := hide hi
              clear hn hi
              go_wp2
              go_quiet (fail)
              go_wp2
              go_quiet ((go_at_call 32; exact quiet_same (isSpace_is (unhide HSP) _) ⟨_, rfl⟩))
              go_wp2
              go_quiet (fail)
              go_wp2_with (first | (go_at_call 33; refine (hasPrefix_is (unhide HD) _ hs (by omega)).mono ?_; rintro e w' ⟨rfl, rfl⟩) | (go_at_call 34; refine (indexByte_is (unhide HI) _).mono ?_; rintro e w' ⟨rfl, rfl⟩))
              go_roundg 1
              case measure => omega
              case rel => exact ⟨s.size, _, by omega, by omega, (unhide HS).trans ((skip_cmt_end hlt (unhide HB) (cmt_of_dash (unhide HD) (Or.inl (unhide H2E))) (by rw [unhide HN]; decide)).trans (skip_past s _ (Nat.le_refl _)).symm), by rw [put_pos]⟩
            · have HN := hide hn
              have HI := hide hi
              have ho : k + o < s.size := by have := nl_bd s k; omega
              clear hn hi
              go_wp2
              go_quiet (fail)
              go_wp2
              go_quiet ((go_at_call 32; exact quiet_same (isSpace_is (unhide HSP) _) ⟨_, rfl⟩))
              go_wp2
              go_quiet (fail)
              go_wp2_with (first | (go_at_call 33; refine (hasPrefix_is (unhide HD) _ hs (by omega)).mono ?_; rintro e w' ⟨rfl, rfl⟩) | (go_at_call 34; refine (indexByte_is (unhide HI) _).mono ?_; rintro e w' ⟨rfl, rfl⟩))
              go_roundg (s.size + 1 - (k + o + 1))
              case measure => omega
              case rel => exact ⟨k + o + 1, _, rfl, by omega, (unhide HS).trans ((skip_cmt_nl hlt (unhide HB) (cmt_of_dash (unhide HD) (Or.inl (unhide H2E))) (by rw [unhide HN]; omega)).trans (by rw [unhide HN, show ((k : Int) + o).toNat = k + o from by omega])), by rw [put_pos]; go_num⟩
    · have hlt' : s.size ≤ k := by omega
      go_wp2
      go_quiet (fail)
      go_wp2
      go_end0
      refine ⟨rfl, n + nq, ?_⟩
      rw [HS.out, skip_past s k hlt', World.drewN_drewN]
end Go.Proofs.Qxb6602520a.Leaf
