import Derived.Test.Qxb6603346aScan
namespace Go.Proofs.Qxb6603346a.Leaf
open Go Go.RowKit Plain
set_option linter.unusedVariables false

theorem setCell_self {w : World} {P i : Nat} {v : Value} (h : w.cell? ⟨P, i, none⟩ = some v) : w.setCell ⟨P, i, none⟩ v = w := by
  have hh : (w.setCell ⟨P, i, none⟩ v).heap = w.heap := by
    apply Array.ext_getElem?
    intro j
    simp only [World.setCell, Array.getElem?_modify]
    split
    · rename_i e
      subst e
      unfold World.cell? at h
      cases hb : w.heap[P]? with
      | none => rfl
      | some o =>
        rw [hb] at h
        cases o with
        | cells c t fr =>
          simp at h
          simp only [Option.isSome_none, Bool.false_eq_true, if_false, Option.map_some]
          congr 2
          apply Array.ext_getElem?
          intro x
          by_cases e : x = i
          · subst e
            rw [Array.getElem?_setIfInBounds_self_of_lt (Array.getElem?_eq_some_iff.1 h).1, h]
          · rw [Array.getElem?_setIfInBounds_ne (fun e' => e e'.symm)]
        | _ => rfl
    · rfl
  cases w
  simp only [World.setCell] at hh ⊢
  rw [hh]
theorem setCell_twice (w : World) (P i : Nat) (u v : Value) : (w.setCell ⟨P, i, none⟩ u).setCell ⟨P, i, none⟩ v = w.setCell ⟨P, i, none⟩ v := by
  have hh : ((w.setCell ⟨P, i, none⟩ u).setCell ⟨P, i, none⟩ v).heap = (w.setCell ⟨P, i, none⟩ v).heap := by
    apply Array.ext_getElem?
    intro j
    simp only [World.setCell, Array.getElem?_modify]
    split
    · cases w.heap[j]? with
      | none => rfl
      | some o =>
        cases o with
        | cells c t fr => simp
        | _ => rfl
    · rfl
  cases w
  simp only [World.setCell] at hh ⊢
  rw [hh]

theorem step_world {w wr : World} {P n : Nat} {x y : Value} (nq : Nat) (hw : wr = (w.setCell ⟨P, 1, none⟩ x).drewN n) : (wr.drewN nq).setCell ⟨P, 1, none⟩ y = (w.setCell ⟨P, 1, none⟩ y).drewN (n + nq) := by
  subst hw
  rw [World.drewN_drewN]
  show ((w.setCell ⟨P, 1, none⟩ x).setCell ⟨P, 1, none⟩ y).drewN _ = _
  rw [setCell_twice]

theorem draws3 (w : World) (a b c : Nat) : ((w.drewN a).drewN b).drewN c = w.drewN (a + b + c) := by rw [World.drewN_drewN, World.drewN_drewN, Nat.add_assoc]

theorem at_byte {s : ByteArray} {k : Nat} (h : k < s.size) : ((bAt s k).toNat : Int) = ((s[k].toNat : Nat) : Int) := by rw [bAt_lt h]

set_option maxHeartbeats 1000000 in
theorem token_all {s : ByteArray} {k P : Nat} {w : World} (h : Sc w P s k) (hs : s.size ≤ 1048576) (hk : k ≤ s.size) :
    Calls Try.prog 13 #[.pointer (some ⟨P, 0, none⟩)] w fun e w' => e = .returned (.string (s.extract k (run s k))) ∧ ∃ n, w' = (w.setCell ⟨P, 1, none⟩ (.int .i64 ((run s k : Nat) : Int))).drewN n := by
  have hr := run_spec s _ k (Nat.le_refl _) hk
  have HS := hide h
  have HR := hide hr
  have hself := setCell_self h.2.1
  have HSELF := hide hself
  obtain ⟨h1, h2, h3, h4⟩ := h
  clear hself hr h1 h3
  go_enter Try.func13, Try.ntmps13
  go_wp2
  clear h2
  go_loopg [8] (s.size - k) (fun g _ wr => ∃ j n : Nat, g = s.size - j ∧ k ≤ j ∧ j ≤ s.size ∧ Hid (run s k = run s j ∧ wr = (w.setCell ⟨P, 1, none⟩ (.int .i64 (j : Int))).drewN n))
  case atStart => exact ⟨k, 0, rfl, Nat.le_refl _, hk, rfl, by rw [unhide HSELF]; rfl⟩
  case round =>
    obtain ⟨j, n, rfl, hkj, hj, H⟩ := hrel
    obtain ⟨hrun, hw⟩ := unhide H
    obtain ⟨c1, c2, c3, c4⟩ : Sc wr P s j := by rw [hw]; exact (Sc.put (unhide HS) j).draw n
    have hd := fun (b : Bool) (hb : decide (s.size ≤ j) = b) (m : Nat) => done_is (w := wr.drewN m) (⟨c1, c2, c3, c4⟩ : Sc wr P s j) hs (by omega) hb
    by_cases hlt : j < s.size
    · cases ht : tch (bAt s j).toNat with
      | true =>
        have HD := hide (hd false (by simp; omega))
        have ht' : tch ((s[j].toNat : Nat) : Int) = true := by rw [bAt_lt hlt] at ht; exact ht
        have HT := hide (fun w => isTok_is (c := s[j]) ht' w)
        have HG := hide (run_go s j hlt ht)
        clear hd ht ht' hrun hw
        go_wp2
        go_quiet (first | (go_at_call 14; exact quiet_draw (unhide HD _) (fun n => ⟨_, by rw [World.drewN_drewN]⟩)) | (go_at_call 17; exact quiet_same (unhide HT _) ⟨_, rfl⟩))
        go_wp2
        go_roundg (s.size - (j + 1))
        case measure => omega
        case rel => exact ⟨j + 1, n + nq, rfl, by omega, by omega, (unhide H).1.trans (unhide HG), step_world nq (unhide H).2⟩
      | false =>
        have HD := hide (hd false (by simp; omega))
        have ht' : tch ((s[j].toNat : Nat) : Int) = false := by rw [bAt_lt hlt] at ht; exact ht
        have HT := hide (fun w => isTok_is (c := s[j]) ht' w)
        have hst := hrun.trans (run_stop s j (by rw [ht]; simp))
        have FIN : Hid (run s k = j ∧ wr = (w.setCell ⟨P, 1, none⟩ (.int .i64 (j : Int))).drewN n) := ⟨hst, hw⟩
        clear hd ht ht' hrun hw H hst
        go_wp2
        go_quiet (first | (go_at_call 14; exact quiet_draw (unhide HD _) (fun n => ⟨_, by rw [World.drewN_drewN]⟩)) | (go_at_call 17; exact quiet_same (unhide HT _) ⟨_, rfl⟩))
        go_wp2
        go_quiet (fail)
        go_wp2
        go_ret
        obtain ⟨f1, f2⟩ := unhide FIN
        rw [f1, f2]
        first | exact ⟨rfl, _, World.drewN_drewN⟩ | exact ⟨rfl, _, draws3 _ _ _ _⟩
    · have hst := hrun.trans (run_stop s j (by omega))
      have FIN : Hid (run s k = j ∧ wr = (w.setCell ⟨P, 1, none⟩ (.int .i64 (j : Int))).drewN n) := ⟨hst, hw⟩
      have HD := hide (hd true (by simp; omega))
      clear hd hrun hw H hst
      go_wp2
      go_quiet (first | (go_at_call 14; exact quiet_draw (unhide HD _) (fun n => ⟨_, by rw [World.drewN_drewN]⟩)))
      go_wp2
      go_quiet (fail)
      go_wp2
      go_ret
      obtain ⟨f1, f2⟩ := unhide FIN
      rw [f1, f2]
      first | exact ⟨rfl, _, World.drewN_drewN⟩ | exact ⟨rfl, _, draws3 _ _ _ _⟩
end Go.Proofs.Qxb6603346a.Leaf
