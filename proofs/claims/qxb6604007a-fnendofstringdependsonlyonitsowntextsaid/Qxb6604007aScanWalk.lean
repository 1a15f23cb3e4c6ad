import Derived.Test.Qxb6604007aMore
namespace Go.Proofs.Qxb6604007a.Leaf
open Go Go.RowKit Plain
set_option linter.unusedVariables false

set_option maxHeartbeats 1000000 in
theorem scan_no (a : Option Addr) (n c : Nat) (p : Int) (w : World) (h : 1048576 < n) :
    Calls Try.prog 5 #[.slice a n c, .int .i64 p] w fun e w' => e = .returned (.bool true) ∧ Below w.heap.size w w' := by
  have K := hide (fun w => bytes15_no a n c p w h)
  go_enter Try.func5, Try.ntmps5
  go_wp2_with (fail)
  refine (unhide K _).mono ?_
  rintro e w' ⟨rfl, rfl⟩
  go_wp2_with (fail)
  go_ret
  exact ⟨rfl, Below.refl _ _⟩

set_option maxHeartbeats 1000000 in
theorem scan_out (a : Option Addr) (n c : Nat) (p : Int) (w : World) (h : n ≤ 1048576) (hp : p < 0 ∨ (n : Int) ≤ p) :
    Calls Try.prog 5 #[.slice a n c, .int .i64 p] w fun e w' => e = .returned (.bool true) ∧ Below w.heap.size w w' := by
  have K := hide (fun w => bytes15 a n c p w h)
  rcases hp with hp | hp
  · go_enter Try.func5, Try.ntmps5
    go_wp2_with (fail)
    refine (unhide K _).mono ?_
    rintro e w' ⟨rfl, rfl⟩
    go_wp2_with (fail)
    go_ret
    exact ⟨rfl, Below.refl _ _⟩
  · have hp0 : 0 ≤ p := by omega
    go_enter Try.func5, Try.ntmps5
    go_wp2_with (fail)
    refine (unhide K _).mono ?_
    rintro e w' ⟨rfl, rfl⟩
    go_wp2_with (fail)
    go_ret
    exact ⟨rfl, Below.refl _ _⟩

theorem byte_beq {x c : UInt8} (h : x = c) : (((x.toNat : Nat) : Int) != (c.toNat : Int)) = false := by rw [h]; simp
theorem byte_bne {x c : UInt8} (h : x ≠ c) : (((x.toNat : Nat) : Int) != (c.toNat : Int)) = true := by
  simp only [bne_iff_ne, ne_eq]
  intro e
  exact h (UInt8.toNat_inj.1 (by omega))

set_option maxHeartbeats 1000000 in
theorem scan_in (x : Addr) (n c k : Nat) (B : Nat → UInt8) (w : World) (h : Holds w x n B) (hn : n ≤ 1048576) (hk : k < n) :
    Calls Try.prog 5 #[.slice (some x) n c, .int .i64 (k : Int)] w fun e w' => e = .returned (.bool true) ∧ Below w.heap.size w w' := by
  have K := hide (fun w => bytes15 (some x) n c k w hn)
  have hcell := h k hk
  by_cases hq : B k = 34
  · have h34 : ((((B k).toNat : Nat) : Int) != 34) = false := byte_beq (c := 34) hq
    have KC := hide (clone_all (c := c) h hn)
    have KE : Hid (∀ w', Row w' w.heap.size n B → Calls Try.prog 16 #[.slice (some ⟨w.heap.size, 0, none⟩) n n, .int .i64 (k : Int)] w' fun e w'' => e = .returned (.int .i64 (mdl n B (k + 1))) ∧ w'' = w') := fun w' hr => zzend hr hn (Nat.le_refl _) (by unfold maxLen; omega) hk hq rfl
    have KM : Hid (∀ w', Row w' w.heap.size n B → Calls Try.prog 17 #[.slice (some ⟨w.heap.size, 0, none⟩) n n, .int .i64 (k : Int)] w' fun e w'' => e = .returned (.int .i64 (mdl n B (k + 1))) ∧ w'' = w') := fun w' hr => model_all hr hn hk rfl
    obtain ⟨r, hr⟩ : ∃ r, r = mdl n B (k + 1) := ⟨_, rfl⟩
    rw [← hr] at KE KM
    clear hr h hq
    go_enter Try.func5, Try.ntmps5
    go_wp2_with (fail)
    refine (unhide K _).mono ?_
    rintro e w' ⟨rfl, rfl⟩
    go_wp2_with (fail)
    refine (unhide KC).mono ?_
    rintro e w1 ⟨rfl, hrow, hbel, hlt⟩
    have R := hide hrow
    have BEL := hide hbel
    clear hrow hbel hlt
    go_wp2_with (fail)
    refine (unhide KE _ (unhide R)).mono ?_
    rintro e w2 ⟨rfl, rfl⟩
    go_wp2_with (fail)
    refine (unhide KM _ (unhide R)).mono ?_
    rintro e w2 ⟨rfl, rfl⟩
    go_wp2_with (fail)
    go_ret
    exact ⟨rfl, unhide BEL⟩
  · have h34 : ((((B k).toNat : Nat) : Int) != 34) = true := byte_bne (c := 34) hq
    clear hq h
    go_enter Try.func5, Try.ntmps5
    go_wp2_with (fail)
    refine (unhide K _).mono ?_
    rintro e w' ⟨rfl, rfl⟩
    go_wp2_with (fail)
    go_ret
    exact ⟨rfl, Below.refl _ _⟩

/-- The bytes of a row of numbers that fit. -/
def bytesAt (zs : List Int) (i : Nat) : UInt8 := UInt8.ofNat (zs.getD i 0).toNat
theorem bytesAt_is {zs : List Int} (hz : ∀ n ∈ zs, (Lit.int .u8 n).wf = true) {i : Nat} (hi : i < zs.length) : ((bytesAt zs i).toNat : Int) = zs.getD i 0 := by
  have h1 := hz (zs.getD i 0) (by rw [List.getD_eq_getElem?_getD, List.getElem?_eq_getElem hi]; simp)
  have h2 : 0 ≤ zs.getD i 0 ∧ zs.getD i 0 < 256 := by
    generalize zs.getD i 0 = y at h1 ⊢
    simp [Lit.wf, IntKind.min, IntKind.max, IntKind.bits, IntKind.signed] at h1
    omega
  unfold bytesAt
  rw [UInt8.toNat_ofNat_of_lt' (by show _ < 256; omega)]
  omega
theorem holds_of {w : World} {x : Addr} {n : Nat} {zs : List Int} (hn : n ≤ zs.length) (hc : ∀ i, i < zs.length → w.cell? (x.add i) = some (.int .u8 (zs.getD i 0))) (hz : ∀ n ∈ zs, (Lit.int .u8 n).wf = true) : Holds w x n (bytesAt zs) := by
  intro i hi
  rw [hc i (by omega), bytesAt_is hz (by omega)]
end Go.Proofs.Qxb6604007a.Leaf
