import Derived.Test.Qxb6603346aProg
import Derived.Test.Qxb6603346aPlain
import Derived.WalkKit
import Derived.WalkLawsBesides
import Derived.WalkSpells
import Derived.BigQuiet
import Derived.Deep.QuietTactic
import Derived.Deep.LoopGhost
import Derived.Deep.Light
namespace Go.Proofs.Qxb6603346a.Leaf
open Go Go.RowKit Plain
set_option linter.unusedVariables false

theorem hide {p : Prop} (h : p) : Hid p := h
theorem unhide {p : Prop} (h : Hid p) : p := h
theorem stand {p : Prop} (h : Hid p) : p := h
theorem ret_int {k : IntKind} {a b : Int} (h : a = b) : Ending.returned (.int k a) = .returned (.int k b) := by rw [h]
theorem ret_bool {a b : Bool} (h : a = b) : Ending.returned (.bool a) = .returned (.bool b) := by rw [h]
theorem quiet_draw {P : Program} {f : FuncId} {args : Array Value} {W : World} {X : Nat → World} {v : Value}
    (h : Calls P f args W fun e w' => e = .returned v ∧ ∃ n, w' = W.drewN n) (hX : ∀ n, ∃ m, W.drewN n = X m) : Calls P f args W fun e w'' => e = .returned v ∧ ∃ m, w'' = X m :=
  h.mono fun _ _ ⟨he, n, hm⟩ => ⟨he, (hX n).elim fun m e => ⟨m, hm.trans e⟩⟩
theorem quiet_same {P : Program} {f : FuncId} {args : Array Value} {W : World} {X : Nat → World} {v : Value}
    (h : Calls P f args W fun e w' => e = .returned v ∧ w' = W) (hX : ∃ m, W = X m) : Calls P f args W fun e w'' => e = .returned v ∧ ∃ m, w'' = X m :=
  h.mono fun _ _ ⟨he, hm⟩ => ⟨he, hX.elim fun m e => ⟨m, hm.trans e⟩⟩

set_option maxHeartbeats 400000 in
theorem bytes5 (s : ByteArray) (p : Int) (w : World) (h : s.size ≤ 1048576) :
    Calls Try.prog 5 #[.string s, .int .i64 p] w fun e w' => e = .returned (.bool true) ∧ w' = w := by
  go_enter Try.func5, Try.ntmps5
  go_wp2
  go_ret
  exact ⟨rfl, rfl⟩
set_option maxHeartbeats 400000 in
theorem bytes5_no (s : ByteArray) (p : Int) (w : World) (h : 1048576 < s.size) :
    Calls Try.prog 5 #[.string s, .int .i64 p] w fun e w' => e = .returned (.bool false) ∧ w' = w := by
  go_enter Try.func5, Try.ntmps5
  go_wp2
  go_ret
  exact ⟨rfl, rfl⟩

set_option maxHeartbeats 1000000 in
theorem tchar_any (c : Int) (w : World) :
    Calls Try.prog 8 #[.int .u8 c] w fun e w' => e = .returned (.bool (tch c)) ∧ w' = w := by
  by_cases h1 : c ≤ 32
  · go_enter Try.func8, Try.ntmps8
    go_wp2
    go_ret
    exact ⟨ret_bool (by unfold tch; rw [show decide (32 < c) = false from by simp; omega]; rfl), rfl⟩
  · by_cases h2 : 127 ≤ c
    · go_enter Try.func8, Try.ntmps8
      go_wp2
      go_ret
      exact ⟨ret_bool (by unfold tch; rw [show decide (c < 127) = false from by simp; omega]; simp), rfl⟩
    · have e : tch c = !(c == 34 || c == 40 || c == 41 || c == 44 || c == 47 || c == 58 || c == 59 || c == 60 || c == 61 || c == 62 || c == 63 || c == 64 || c == 91 || c == 92 || c == 93 || c == 123 || c == 125) := by
        unfold tch; rw [show decide (32 < c) = true from by simp; omega, show decide (c < 127) = true from by simp; omega]; rfl
      have E := hide e
      clear e
      go_enter Try.func8, Try.ntmps8
      go_wp2
      all_goals go_ret
      all_goals exact ⟨ret_bool (by rw [unhide E]; clear E; simp_all), rfl⟩

/-- What isTokenByte reckons. -/
def tokB (c : Int) : Bool :=
  (decide (97 ≤ c) && decide (c ≤ 122)) || (decide (65 ≤ c) && decide (c ≤ 90)) || (decide (48 ≤ c) && decide (c ≤ 57)) || decide (0 ≤ Lib.indexByte [33, 35, 36, 37, 38, 39, 42, 43, 45, 46, 94, 95, 96, 124, 126] c.toNat.toUInt8)
theorem tokB_tch (c : UInt8) : tokB c.toNat = tch c.toNat := by
  have h : ∀ n : Fin 256, tokB (n.val : Int) = tch (n.val : Int) := by decide +kernel
  exact h ⟨c.toNat, c.toNat_lt⟩

set_option maxHeartbeats 400000 in
set_option maxRecDepth 100000 in
theorem indexByte_any (s : ByteArray) (c : Int) (w : World) :
    Calls Try.prog 19 #[.string s, .int .u8 c] w fun e w' => e = .returned (.int .i64 (Lib.indexByte s.data.toList c.toNat.toUInt8)) ∧ w' = w := by
  go_enter Try.func19, Try.ntmps19
  go_wp2
  rw [run_callFunc_extern Try.func22 (by kernel_rfl) (by kernel_rfl) (by kernel_rfl) (e := Extern.BytealgIndexByte.indexByte) (by kernel_rfl), Lib.run_indexByteString]
  simp only [Result.andThen]
  rw [Oper.upon_value]
  go_wp2
  go_ret
  exact ⟨rfl, rfl⟩

set_option maxHeartbeats 1000000 in
theorem isTok_any (c : UInt8) (w : World) :
    Calls Try.prog 17 #[.int .u8 (c.toNat : Int)] w fun e w' => e = .returned (.bool (tch c.toNat)) ∧ w' = w := by
  rw [← tokB_tch]
  obtain ⟨x, hx⟩ : ∃ x : Int, x = (c.toNat : Int) := ⟨_, rfl⟩
  rw [← hx]
  clear hx c
  obtain ⟨r, hr⟩ : ∃ r, r = Lib.indexByte [33, 35, 36, 37, 38, 39, 42, 43, 45, 46, 94, 95, 96, 124, 126] x.toNat.toUInt8 := ⟨_, rfl⟩
  have HR := hide hr
  have key : ∀ w, Calls Try.prog 19 #[.string ⟨#[33, 35, 36, 37, 38, 39, 42, 43, 45, 46, 94, 95, 96, 124, 126]⟩, .int .u8 x] w fun e w' => e = .returned (.int .i64 r) ∧ w' = w := fun w => by rw [hr]; exact indexByte_any _ x w
  have K := hide key
  clear key hr
  go_enter Try.func17, Try.ntmps17
  go_wp2_with (first | (go_at_call 19; refine (unhide K _).mono ?_; rintro e w' ⟨rfl, hw⟩; subst hw))
  all_goals go_ret
  all_goals exact ⟨ret_bool (by unfold tokB; rw [← unhide HR, Bool.eq_iff_iff]; simp; omega), rfl⟩
theorem isTok_is {c : UInt8} {b : Bool} (h : tch c.toNat = b) (w : World) :
    Calls Try.prog 17 #[.int .u8 (c.toNat : Int)] w fun e w' => e = .returned (.bool b) ∧ w' = w := by
  subst h; exact isTok_any c w
theorem tchar_is {c : Int} {b : Bool} (h : tch c = b) (w : World) :
    Calls Try.prog 8 #[.int .u8 c] w fun e w' => e = .returned (.bool b) ∧ w' = w := by
  subst h; exact tchar_any c w

end Go.Proofs.Qxb6603346a.Leaf
