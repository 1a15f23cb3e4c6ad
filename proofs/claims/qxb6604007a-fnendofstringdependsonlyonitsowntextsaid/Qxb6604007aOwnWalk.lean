import Derived.Test.Qxb6604007aOwnParts
namespace Go.Proofs.Qxb6604007a.Leaf
open Go Go.RowKit Plain
set_option linter.unusedVariables false

theorem both_zero (B E : Nat → UInt8) : both 0 B E = E := by funext i; simp [both]

theorem wpList_append_first {w : World} {ops : Array Oper} {rest : List Oper} {o : Oper} {a : Act} {Q : Exit → Act → World → Prop} (hgd : o.guard = none) (s x : Operand)
    (ho : o.op = .call { callee := .builtin .append, args := #[s, x], argTypes := #[22, 22] })
    (base g0 cap0 : Nat) (hs : a.eval s = .slice (some ⟨g0, 0, none⟩) 0 cap0) (hown : w.ownsRow base 5 1 (.slice (some ⟨g0, 0, none⟩) 0 cap0) 0 [])
    (ad : Option Addr) (m : Nat) (E : Nat → UInt8) (hx : a.eval x = .slice ad m m) (hE : Opt w ad m E) (hnm : m ≤ 1048576) (hbase : base ≤ w.heap.size) (w0 : World) (hb0 : Below base w0 w)
    (h : ∀ g cap w', w'.ownsRow base 5 1 (.slice (some ⟨g, 0, none⟩) m cap) m (cellsOf m E) → Below base w0 w' → m ≤ cap → cap ≤ maxLen → wpList Try.prog ops Q rest (a.put o.dst (.slice (some ⟨g, 0, none⟩) m cap)) w') :
    wpList Try.prog ops Q (o :: rest) a w := by
  refine wpList_append_opt hgd s x ho base g0 0 cap0 E hs hown ad m E hx hE (by omega) hbase w0 hb0 ?_
  rw [Nat.zero_add, both_zero]
  exact h

theorem make22 (c : Nat) (hc : c ≤ 1048576) :
    ∃ mk : World → World, ∀ w : World, (Instr.makeSlice 22 (.int .i64 0) (.int .i64 (c : Int))).run Try.prog w = .ok (.slice (some ⟨w.heap.size, 0, none⟩) 0 c) (mk w) ∧
      (mk w).ownsRow w.heap.size 5 1 (.slice (some ⟨w.heap.size, 0, none⟩) 0 c) 0 [] ∧ w.grownBy (mk w) none := by
  obtain ⟨i0, hi, hz0, hz1, hz2⟩ := info_parts info5
  exact Classical.skolem.1 fun w => run_make_own w w.heap.size 22 5 i0 (.int .u8 0) 1 Try.underlying22 hi hz0 hz1 .i64 .i64 c (by rw [hz2]; omega) (by unfold maxLen; omega) (Nat.le_refl _)

set_option maxHeartbeats 1000000 in
theorem own_no (a a' : Option Addr) (n c m c' : Nat) (p : Int) (w : World) (hn : n ≤ maxLen) (hm : m ≤ maxLen) (h : 1048576 < n + m) :
    Calls Try.prog 6 #[.slice a n c, .slice a' m c', .int .i64 p] w fun e w' => e = .returned (.bool true) ∧ Below w.heap.size w w' := by
  have K := hide (fun w => bytes18_no a a' n c m c' p w hn hm h)
  go_enter Try.func6, Try.ntmps6
  go_wp2_with (fail)
  refine (unhide K _).mono ?_
  rintro e w' ⟨rfl, rfl⟩
  go_wp2_with (fail)
  go_ret
  exact ⟨rfl, Below.refl _ _⟩

set_option maxHeartbeats 1000000 in
theorem own_out (a a' : Option Addr) (n c m c' : Nat) (p : Int) (w : World) (h : n + m ≤ 1048576) (hp : p < 0 ∨ (n : Int) ≤ p) :
    Calls Try.prog 6 #[.slice a n c, .slice a' m c', .int .i64 p] w fun e w' => e = .returned (.bool true) ∧ Below w.heap.size w w' := by
  have K := hide (fun w => bytes18 a a' n c m c' p w h)
  rcases hp with hp | hp
  · go_enter Try.func6, Try.ntmps6
    go_wp2_with (fail)
    refine (unhide K _).mono ?_
    rintro e w' ⟨rfl, rfl⟩
    go_wp2_with (fail)
    go_ret
    exact ⟨rfl, Below.refl _ _⟩
  · have hp0 : 0 ≤ p := by omega
    go_enter Try.func6, Try.ntmps6
    go_wp2_with (fail)
    refine (unhide K _).mono ?_
    rintro e w' ⟨rfl, rfl⟩
    go_wp2_with (fail)
    go_ret
    exact ⟨rfl, Below.refl _ _⟩

set_option maxHeartbeats 1000000 in
theorem own_34 (x : Addr) (a' : Option Addr) (n c m c' k : Nat) (B : Nat → UInt8) (w : World) (hH : Holds w x n B) (h : n + m ≤ 1048576) (hk : k < n) (hq : B k ≠ 34) :
    Calls Try.prog 6 #[.slice (some x) n c, .slice a' m c', .int .i64 (k : Int)] w fun e w' => e = .returned (.bool true) ∧ Below w.heap.size w w' := by
  have K := hide (fun w => bytes18 (some x) a' n c m c' k w h)
  have hcell := hH k hk
  have h34 : ((((B k).toNat : Nat) : Int) != 34) = true := byte_bne (c := 34) hq
  clear hH hq
  go_enter Try.func6, Try.ntmps6
  go_wp2_with (fail)
  refine (unhide K _).mono ?_
  rintro e w' ⟨rfl, rfl⟩
  go_wp2_with (fail)
  go_ret
  exact ⟨rfl, Below.refl _ _⟩

set_option maxHeartbeats 2000000 in
theorem own_in (x : Addr) (a' : Option Addr) (n c m c' k : Nat) (B E : Nat → UInt8) (w : World) (hH : Holds w x n B) (hE : (a' = none ∧ m = 0 ∧ c' = 0) ∨ ∃ x', a' = some x' ∧ Holds w x' m E) (h : n + m ≤ 1048576) (hk : k < n) (hq : B k = 34) :
    Calls Try.prog 6 #[.slice (some x) n c, .slice a' m c', .int .i64 (k : Int)] w fun e w' => e = .returned (.bool true) ∧ Below w.heap.size w w' := by
  have K := hide (fun w => bytes18 (some x) a' n c m c' k w h)
  have hcell := hH k hk
  have h34 : ((((B k).toNat : Nat) : Int) != 34) = false := byte_beq (c := 34) hq
  have KC := hide (clone_all (c := c) hH (show n ≤ 1048576 by omega))
  have KX : Hid (∀ w1, Below w.heap.size w w1 → Calls Try.prog 10 #[.slice a' m c'] w1 fun e w' => e = .returned (.slice (copyAt a' w1) m m) ∧ (Opt w' (copyAt a' w1) m E ∧ Below w1.heap.size w1 w')) := fun w1 hb =>
    clone_opt (hE.imp id fun ⟨x', e, hx⟩ => ⟨x', e, hx.below hb (Nat.le_refl _)⟩) (by omega)
  obtain ⟨mk, hall⟩ := make22 (n + m) h
  have hmk := fun w => (hall w).1
  rw [Int.natCast_add] at hmk
  have HALL := hide (fun w => (hall w).2)
  have HQ := hide hq
  clear hall hH hE hq
  go_enter Try.func6, Try.ntmps6
  go_wp2_with (fail)
  refine (unhide K _).mono ?_
  rintro e w' ⟨rfl, rfl⟩
  go_wp2_with (fail)
  refine (unhide KC).mono ?_
  rintro e w1 ⟨rfl, r1, b1, l1⟩
  have S1 := hide (And.intro r1 (And.intro b1 l1))
  clear r1 b1 l1
  go_wp2_with (fail)
  refine (unhide KX w1 (unhide S1).2.1).mono ?_
  rintro e w2 ⟨rfl, o2, b2⟩
  have S2 := hide (And.intro o2 b2)
  clear o2 b2
  obtain ⟨ad, had⟩ : ∃ ad, ad = copyAt a' w1 := ⟨_, rfl⟩
  rw [← had] at S2
  rw [← had]
  clear had
  go_wp2_with (at_builtin; refine stand ?_)
  have S3 : Hid (Row w2 w'.heap.size n B ∧ w'.heap.size < w2.heap.size ∧ Below w'.heap.size w' w2 ∧ Opt w2 ad m E) := by
    obtain ⟨r1, b1, l1⟩ := unhide S1
    obtain ⟨o2, b2⟩ := unhide S2
    exact ⟨r1.below b2 l1, Nat.lt_of_lt_of_le l1 b2.size, b1.trans (b2.mono (by omega)), o2⟩
  have S4 : Hid (Below w2.heap.size w2 (mk w2) ∧ w2.heap.size ≤ (mk w2).heap.size) := by
    have hg := (unhide HALL w2).2
    exact ⟨(Below.refl _ w2).grown hg (Nat.le_refl _) (fun k hk => by cases hk), hg.size⟩
  refine hide (wpList_append_first rfl _ _ rfl w2.heap.size w2.heap.size (n + m) rfl (unhide HALL w2).1 (some ⟨w'.heap.size, 0, none⟩) n B rfl ?o (by omega) (unhide S4).2 w2 (unhide S4).1 ?_)
  case o => exact Or.inr ⟨_, rfl, ((unhide S3).1.below (unhide S4).1 (unhide S3).2.1).holds⟩
  intro g1 cap1 w3 own1 bel1 hle1 hmx1
  have S5 := hide (And.intro own1 bel1)
  clear own1 bel1
  go_wp2_with (at_builtin; refine stand ?_)
  refine hide (wpList_append_opt rfl _ _ rfl w2.heap.size g1 n cap1 B rfl (unhide S5).1 ad m E rfl ?o h (unhide S5).2.size w2 (unhide S5).2 ?_)
  case o => exact (unhide S3).2.2.2.imp id fun ⟨x', e, hx⟩ => ⟨x', e, hx.below (unhide S5).2 (Nat.le_refl _)⟩
  intro g2 cap2 w4 own2 bel2 hle2 hmx2
  have R0 : Hid (Row w4 w'.heap.size n B) := (unhide S3).1.below bel2 (unhide S3).2.1
  have R1 : Hid (Row w4 g2 (n + m) (both n B E)) := own_row own2
  have BEL : Hid (Below w'.heap.size w' w4) := (unhide S3).2.2.1.trans (bel2.mono (Nat.le_of_lt (unhide S3).2.1))
  clear own2 bel2 S1 S2 S3 S4 S5 HALL hmk KC KX K h34 hcell
  obtain ⟨b0, hb0⟩ : ∃ b0, b0 = w'.heap.size := ⟨_, rfl⟩
  rw [← hb0] at R0
  rw [← hb0]
  have BB : Hid (Below w'.heap.size w' w4 ∧ b0 = w'.heap.size) := ⟨unhide BEL, hb0⟩
  clear hb0 BEL
  have KE1 : Hid (∀ r, mdl n B (k + 1) = r → Calls Try.prog 16 #[.slice (some ⟨b0, 0, none⟩) n n, .int .i64 (k : Int)] w4 fun e w'' => e = .returned (.int .i64 r) ∧ w'' = w4) := fun r hr =>
    zzend (unhide R0) (by omega) (Nat.le_refl _) (by unfold maxLen; omega) hk (unhide HQ) hr
  have KE2 : Hid (∀ r, mdl (n + m) (both n B E) (k + 1) = r → Calls Try.prog 16 #[.slice (some ⟨g2, 0, none⟩) (n + m) cap2, .int .i64 (k : Int)] w4 fun e w'' => e = .returned (.int .i64 r) ∧ w'' = w4) := fun r hr =>
    zzend (unhide R1) h hle2 hmx2 (by omega) (by rw [both, if_pos hk]; exact unhide HQ) hr
  have hag : ∀ i, i < n → both n B E i = B i := fun i hi => by rw [both, if_pos hi]
  rcases mdl_range n B _ (k + 1) (Nat.le_refl _) with hr | ⟨R, hr, hR1, hR2, hR3⟩
  · have C1 := hide (unhide KE1 (-1) hr)
    have hL := mdl_longer (n := n) (n' := n + m) (B := B) (B' := both n B E) (p := k + 1) (by omega) hag hr
    obtain ⟨L, hLe⟩ : ∃ L, L = mdl (n + m) (both n B E) (k + 1) := ⟨_, rfl⟩
    have C2 := hide (unhide KE2 L hLe.symm)
    rw [← hLe] at hL
    clear hLe hr hag KE1 KE2
    rcases hL with rfl | hL
    · go_wp2_with (fail)
      refine (unhide C1).mono ?_
      rintro e w5 ⟨rfl, rfl⟩
      go_wp2_with (fail)
      refine (unhide C2).mono ?_
      rintro e w5 ⟨rfl, rfl⟩
      go_wp2_with (fail)
      go_ret
      exact ⟨rfl, (unhide BB).1⟩
    · have hL1 : (L == -1) = false := by simp; omega
      go_wp2_with (fail)
      refine (unhide C1).mono ?_
      rintro e w5 ⟨rfl, rfl⟩
      go_wp2_with (fail)
      refine (unhide C2).mono ?_
      rintro e w5 ⟨rfl, rfl⟩
      go_wp2_with (fail)
      go_ret
      exact ⟨rfl, (unhide BB).1⟩
  · have C1 := hide (unhide KE1 R hr)
    have C2 := hide (unhide KE2 R (mdl_same n (n + m) B (both n B E) R (by omega) (fun i hi => hag i (by omega)) _ (k + 1) (Nat.le_refl _) hr))
    have C3 : Hid (Calls Try.prog 16 #[.slice (some ⟨b0, 0, none⟩) R n, .int .i64 (k : Int)] w4 fun e w'' => e = .returned (.int .i64 R) ∧ w'' = w4) :=
      zzend ((unhide R0).cut hR2) (by omega) hR2 (by unfold maxLen; omega) (by omega) (unhide HQ) (mdl_cut hR2 hr)
    have C4 : Hid (Calls Try.prog 16 #[.slice (some ⟨b0, 0, none⟩) (R - 1) n, .int .i64 (k : Int)] w4 fun e w'' => e = .returned (.int .i64 (-1)) ∧ w'' = w4) :=
      zzend ((unhide R0).cut (by omega)) (by omega) (by omega) (by unfold maxLen; omega) (by omega) (unhide HQ) (mdl_cut1 hR2 (by omega) hr)
    have hcell : w4.cell? ⟨b0, R - 1, none⟩ = some (.int .u8 ((B (R - 1)).toNat : Int)) := unhide R0 _ (by omega)
    have h34 : ((((B (R - 1)).toNat : Nat) : Int) != 34) = false := byte_beq (c := 34) hR3
    have hRm : ((R : Int) == -1) = false := by simp
    clear hr hag KE1 KE2 hR3
    go_wp2_with (fail)
    refine (unhide C1).mono ?_
    rintro e w5 ⟨rfl, rfl⟩
    go_wp2_with (fail)
    refine (unhide C2).mono ?_
    rintro e w5 ⟨rfl, rfl⟩
    go_wp2_with (fail)
    refine (unhide C3).mono ?_
    rintro e w5 ⟨rfl, rfl⟩
    go_wp2_with (fail)
    refine (unhide C4).mono ?_
    rintro e w5 ⟨rfl, rfl⟩
    go_wp2_with (fail)
    go_ret
    exact ⟨rfl, (unhide BB).1⟩
end Go.Proofs.Qxb6604007a.Leaf
