import Derived.Test.Qxb6602990aLeaf
import Derived.Laws.Pointers
namespace Go.Proofs.Qxb6602990a.Leaf
open Go Go.RowKit Plain Heap
set_option linter.unusedVariables false

set_option maxHeartbeats 400000 in
theorem covers_nil (b : Nat) (E : Bool) (W : World) (hc : W.cell? ⟨b, 1, none⟩ = some (.bool E)) :
    Calls Try.prog 41 #[.pointer (some ⟨b, 0, none⟩), .string ⟨#[]⟩, .bool false] W fun e w' => e = .returned (.bool E) ∧ ∃ n, w' = W.drewN n := by
  cases E with
  | false =>
    go_enter Try.func41, Try.ntmps41
    go_wp2
    go_ret
    exact ⟨rfl, 0, rfl⟩
  | true =>
    go_enter Try.func41, Try.ntmps41
    go_wp2
    go_ret
    exact ⟨rfl, 0, rfl⟩

/-- What Cut answers, as a premise. -/
def Cuts (X Y Z : ByteArray) (b : Bool) : Prop := ∀ w, Calls Try.prog 43 #[.string X, .string ⟨#[46]⟩] w fun e w' => e = .returned (.tuple #[.string Y, .string Z, .bool b]) ∧ ∃ n, w' = w.drewN n
/-- What a lookup in the map M answers, in W and behind draws. -/
def Looks (W : World) (M : Option Nat) (k : ByteArray) (o : Option Nat) : Prop := ∀ n, (Instr.lookup 51 (.map M) (.string k) false).run Try.prog (W.drewN n) = .ok (ptr o) (W.drewN n)

section
variable (b : Nat) (M : Option Nat) (X Y Z : ByteArray) (bb : Bool) (W : World)

set_option maxHeartbeats 400000 in
theorem covers_A (c : Nat) (hx : X.toList.isEmpty = false) (hc : W.cell? ⟨b, 0, none⟩ = some (.map M)) (hg : Looks W M ⟨#[62]⟩ (some c)) :
    Calls Try.prog 41 #[.pointer (some ⟨b, 0, none⟩), .string X, .bool false] W fun e w' => e = .returned (.bool true) ∧ ∃ n, w' = W.drewN n := by
  have hg0 : (Instr.lookup 51 (.map M) (.string ⟨#[62]⟩) false).run Try.prog W = .ok (.pointer (some ⟨c, 0, none⟩)) W := hg 0
  clear hg
  go_enter Try.func41, Try.ntmps41
  go_wp2
  all_goals go_ret
  all_goals exact ⟨rfl, 0, rfl⟩

set_option maxHeartbeats 400000 in
theorem covers_B (hx : X.toList.isEmpty = false) (hc : W.cell? ⟨b, 0, none⟩ = some (.map M)) (hg : Looks W M ⟨#[62]⟩ none) (hcut : Cuts X Y Z bb) (hy : (Y.toList == [62]) = true) :
    Calls Try.prog 41 #[.pointer (some ⟨b, 0, none⟩), .string X, .bool false] W fun e w' => e = .returned (.bool false) ∧ ∃ n, w' = W.drewN n := by
  have hg0 : (Instr.lookup 51 (.map M) (.string ⟨#[62]⟩) false).run Try.prog W = .ok (.pointer none) W := hg 0
  clear hg
  have HC := hide hcut
  clear hcut
  go_enter Try.func41, Try.ntmps41
  go_wp2_with (first | (go_at_call 43; refine (unhide HC _).mono ?_; rintro e w' ⟨rfl, n, rfl⟩))
  all_goals go_ret
  all_goals exact ⟨rfl, _, rfl⟩
set_option maxHeartbeats 400000 in
theorem covers_C (c : Nat) (hx : X.toList.isEmpty = false) (hc : W.cell? ⟨b, 0, none⟩ = some (.map M)) (hg : Looks W M ⟨#[62]⟩ none) (hcut : Cuts X Y Z bb) (hy : (Y.toList == [62]) = false) (hs : Looks W M ⟨#[42]⟩ (some c)) (is : ∀ n, Calls Try.prog 41 #[.pointer (some ⟨c, 0, none⟩), .string Z, .bool false] (W.drewN n) fun e w' => e = .returned (.bool true) ∧ ∃ m, w' = (W.drewN n).drewN m) :
    Calls Try.prog 41 #[.pointer (some ⟨b, 0, none⟩), .string X, .bool false] W fun e w' => e = .returned (.bool true) ∧ ∃ n, w' = W.drewN n := by
  have hg0 : (Instr.lookup 51 (.map M) (.string ⟨#[62]⟩) false).run Try.prog W = .ok (.pointer none) W := hg 0
  clear hg
  have HC := hide hcut
  clear hcut
  have hs0 : ∀ n, (Instr.lookup 51 (.map M) (.string ⟨#[42]⟩) false).run Try.prog (W.drewN n) = .ok (.pointer (some ⟨c, 0, none⟩)) (W.drewN n) := hs
  clear hs
  have IS := hide is
  clear is
  go_enter Try.func41, Try.ntmps41
  go_wp2_with (first | (go_at_call 43; refine (unhide HC _).mono ?_; rintro e w' ⟨rfl, n, rfl⟩))
  refine (unhide IS _).mono ?_
  rintro e w' ⟨rfl, n2, rfl⟩
  go_wp2_with (fail)
  go_ret
  exact ⟨rfl, _, rfl⟩

set_option maxHeartbeats 400000 in
theorem covers_D (c : Nat) (hx : X.toList.isEmpty = false) (hc : W.cell? ⟨b, 0, none⟩ = some (.map M)) (hg : Looks W M ⟨#[62]⟩ none) (hcut : Cuts X Y Z bb) (hy : (Y.toList == [62]) = false) (hs : Looks W M ⟨#[42]⟩ (some c)) (is : ∀ n, Calls Try.prog 41 #[.pointer (some ⟨c, 0, none⟩), .string Z, .bool false] (W.drewN n) fun e w' => e = .returned (.bool false) ∧ ∃ m, w' = (W.drewN n).drewN m) (hy2 : (Y.toList == [42]) = true) :
    Calls Try.prog 41 #[.pointer (some ⟨b, 0, none⟩), .string X, .bool false] W fun e w' => e = .returned (.bool false) ∧ ∃ n, w' = W.drewN n := by
  have hg0 : (Instr.lookup 51 (.map M) (.string ⟨#[62]⟩) false).run Try.prog W = .ok (.pointer none) W := hg 0
  clear hg
  have HC := hide hcut
  clear hcut
  have hs0 : ∀ n, (Instr.lookup 51 (.map M) (.string ⟨#[42]⟩) false).run Try.prog (W.drewN n) = .ok (.pointer (some ⟨c, 0, none⟩)) (W.drewN n) := hs
  clear hs
  have IS := hide is
  clear is
  go_enter Try.func41, Try.ntmps41
  go_wp2_with (first | (go_at_call 43; refine (unhide HC _).mono ?_; rintro e w' ⟨rfl, n, rfl⟩))
  refine (unhide IS _).mono ?_
  rintro e w' ⟨rfl, n2, rfl⟩
  go_wp2_with (fail)
  go_ret
  exact ⟨rfl, _, rfl⟩

set_option maxHeartbeats 400000 in
theorem covers_E (c : Nat) (hx : X.toList.isEmpty = false) (hc : W.cell? ⟨b, 0, none⟩ = some (.map M)) (hg : Looks W M ⟨#[62]⟩ none) (hcut : Cuts X Y Z bb) (hy : (Y.toList == [62]) = false) (hs : Looks W M ⟨#[42]⟩ (some c)) (is : ∀ n, Calls Try.prog 41 #[.pointer (some ⟨c, 0, none⟩), .string Z, .bool false] (W.drewN n) fun e w' => e = .returned (.bool false) ∧ ∃ m, w' = (W.drewN n).drewN m) (hy2 : (Y.toList == [42]) = false) (hk : Looks W M Y none) :
    Calls Try.prog 41 #[.pointer (some ⟨b, 0, none⟩), .string X, .bool false] W fun e w' => e = .returned (.bool false) ∧ ∃ n, w' = W.drewN n := by
  have hg0 : (Instr.lookup 51 (.map M) (.string ⟨#[62]⟩) false).run Try.prog W = .ok (.pointer none) W := hg 0
  clear hg
  have HC := hide hcut
  clear hcut
  have hs0 : ∀ n, (Instr.lookup 51 (.map M) (.string ⟨#[42]⟩) false).run Try.prog (W.drewN n) = .ok (.pointer (some ⟨c, 0, none⟩)) (W.drewN n) := hs
  clear hs
  have IS := hide is
  clear is
  have hk0 : ∀ n, (Instr.lookup 51 (.map M) (.string Y) false).run Try.prog (W.drewN n) = .ok (.pointer none) (W.drewN n) := hk
  clear hk
  go_enter Try.func41, Try.ntmps41
  go_wp2_with (first | (go_at_call 43; refine (unhide HC _).mono ?_; rintro e w' ⟨rfl, n, rfl⟩))
  refine (unhide IS _).mono ?_
  rintro e w' ⟨rfl, n2, rfl⟩
  go_wp2_with (fail)
  go_ret
  exact ⟨rfl, _, rfl⟩

set_option maxHeartbeats 400000 in
theorem covers_F (c : Nat) (d : Nat) (rk : Bool) (hx : X.toList.isEmpty = false) (hc : W.cell? ⟨b, 0, none⟩ = some (.map M)) (hg : Looks W M ⟨#[62]⟩ none) (hcut : Cuts X Y Z bb) (hy : (Y.toList == [62]) = false) (hs : Looks W M ⟨#[42]⟩ (some c)) (is : ∀ n, Calls Try.prog 41 #[.pointer (some ⟨c, 0, none⟩), .string Z, .bool false] (W.drewN n) fun e w' => e = .returned (.bool false) ∧ ∃ m, w' = (W.drewN n).drewN m) (hy2 : (Y.toList == [42]) = false) (hk : Looks W M Y (some d)) (ik : ∀ n, Calls Try.prog 41 #[.pointer (some ⟨d, 0, none⟩), .string Z, .bool false] (W.drewN n) fun e w' => e = .returned (.bool rk) ∧ ∃ m, w' = (W.drewN n).drewN m) :
    Calls Try.prog 41 #[.pointer (some ⟨b, 0, none⟩), .string X, .bool false] W fun e w' => e = .returned (.bool rk) ∧ ∃ n, w' = W.drewN n := by
  have hg0 : (Instr.lookup 51 (.map M) (.string ⟨#[62]⟩) false).run Try.prog W = .ok (.pointer none) W := hg 0
  clear hg
  have HC := hide hcut
  clear hcut
  have hs0 : ∀ n, (Instr.lookup 51 (.map M) (.string ⟨#[42]⟩) false).run Try.prog (W.drewN n) = .ok (.pointer (some ⟨c, 0, none⟩)) (W.drewN n) := hs
  clear hs
  have IS := hide is
  clear is
  have hk0 : ∀ n, (Instr.lookup 51 (.map M) (.string Y) false).run Try.prog (W.drewN n) = .ok (.pointer (some ⟨d, 0, none⟩)) (W.drewN n) := hk
  clear hk
  have IK := hide ik
  clear ik
  go_enter Try.func41, Try.ntmps41
  go_wp2_with (first | (go_at_call 43; refine (unhide HC _).mono ?_; rintro e w' ⟨rfl, n, rfl⟩))
  refine (unhide IS _).mono ?_
  rintro e w' ⟨rfl, n2, rfl⟩
  go_wp2_with (fail)
  refine (unhide IK _).mono ?_
  rintro e w' ⟨rfl, n3, rfl⟩
  go_wp2_with (fail)
  go_ret
  exact ⟨rfl, _, rfl⟩

set_option maxHeartbeats 400000 in
theorem covers_G (hx : X.toList.isEmpty = false) (hc : W.cell? ⟨b, 0, none⟩ = some (.map M)) (hg : Looks W M ⟨#[62]⟩ none) (hcut : Cuts X Y Z bb) (hy : (Y.toList == [62]) = false) (hs : Looks W M ⟨#[42]⟩ none) (hy2 : (Y.toList == [42]) = true) :
    Calls Try.prog 41 #[.pointer (some ⟨b, 0, none⟩), .string X, .bool false] W fun e w' => e = .returned (.bool false) ∧ ∃ n, w' = W.drewN n := by
  have hg0 : (Instr.lookup 51 (.map M) (.string ⟨#[62]⟩) false).run Try.prog W = .ok (.pointer none) W := hg 0
  clear hg
  have HC := hide hcut
  clear hcut
  have hs0 : ∀ n, (Instr.lookup 51 (.map M) (.string ⟨#[42]⟩) false).run Try.prog (W.drewN n) = .ok (.pointer none) (W.drewN n) := hs
  clear hs
  go_enter Try.func41, Try.ntmps41
  go_wp2_with (first | (go_at_call 43; refine (unhide HC _).mono ?_; rintro e w' ⟨rfl, n, rfl⟩))
  go_ret
  exact ⟨rfl, _, rfl⟩

set_option maxHeartbeats 400000 in
theorem covers_H (hx : X.toList.isEmpty = false) (hc : W.cell? ⟨b, 0, none⟩ = some (.map M)) (hg : Looks W M ⟨#[62]⟩ none) (hcut : Cuts X Y Z bb) (hy : (Y.toList == [62]) = false) (hs : Looks W M ⟨#[42]⟩ none) (hy2 : (Y.toList == [42]) = false) (hk : Looks W M Y none) :
    Calls Try.prog 41 #[.pointer (some ⟨b, 0, none⟩), .string X, .bool false] W fun e w' => e = .returned (.bool false) ∧ ∃ n, w' = W.drewN n := by
  have hg0 : (Instr.lookup 51 (.map M) (.string ⟨#[62]⟩) false).run Try.prog W = .ok (.pointer none) W := hg 0
  clear hg
  have HC := hide hcut
  clear hcut
  have hs0 : ∀ n, (Instr.lookup 51 (.map M) (.string ⟨#[42]⟩) false).run Try.prog (W.drewN n) = .ok (.pointer none) (W.drewN n) := hs
  clear hs
  have hk0 : ∀ n, (Instr.lookup 51 (.map M) (.string Y) false).run Try.prog (W.drewN n) = .ok (.pointer none) (W.drewN n) := hk
  clear hk
  go_enter Try.func41, Try.ntmps41
  go_wp2_with (first | (go_at_call 43; refine (unhide HC _).mono ?_; rintro e w' ⟨rfl, n, rfl⟩))
  go_ret
  exact ⟨rfl, _, rfl⟩

set_option maxHeartbeats 400000 in
theorem covers_I (d : Nat) (rk : Bool) (hx : X.toList.isEmpty = false) (hc : W.cell? ⟨b, 0, none⟩ = some (.map M)) (hg : Looks W M ⟨#[62]⟩ none) (hcut : Cuts X Y Z bb) (hy : (Y.toList == [62]) = false) (hs : Looks W M ⟨#[42]⟩ none) (hy2 : (Y.toList == [42]) = false) (hk : Looks W M Y (some d)) (ik : ∀ n, Calls Try.prog 41 #[.pointer (some ⟨d, 0, none⟩), .string Z, .bool false] (W.drewN n) fun e w' => e = .returned (.bool rk) ∧ ∃ m, w' = (W.drewN n).drewN m) :
    Calls Try.prog 41 #[.pointer (some ⟨b, 0, none⟩), .string X, .bool false] W fun e w' => e = .returned (.bool rk) ∧ ∃ n, w' = W.drewN n := by
  have hg0 : (Instr.lookup 51 (.map M) (.string ⟨#[62]⟩) false).run Try.prog W = .ok (.pointer none) W := hg 0
  clear hg
  have HC := hide hcut
  clear hcut
  have hs0 : ∀ n, (Instr.lookup 51 (.map M) (.string ⟨#[42]⟩) false).run Try.prog (W.drewN n) = .ok (.pointer none) (W.drewN n) := hs
  clear hs
  have hk0 : ∀ n, (Instr.lookup 51 (.map M) (.string Y) false).run Try.prog (W.drewN n) = .ok (.pointer (some ⟨d, 0, none⟩)) (W.drewN n) := hk
  clear hk
  have IK := hide ik
  clear ik
  go_enter Try.func41, Try.ntmps41
  go_wp2_with (first | (go_at_call 43; refine (unhide HC _).mono ?_; rintro e w' ⟨rfl, n, rfl⟩))
  refine (unhide IK _).mono ?_
  rintro e w' ⟨rfl, n3, rfl⟩
  go_wp2_with (fail)
  go_ret
  exact ⟨rfl, _, rfl⟩

end
end Go.Proofs.Qxb6602990a.Leaf
