import Derived.Test.Qxb6602520aProg
import Derived.Test.Qxb6602520aPlain
import Derived.WalkKit
import Derived.WalkLawsBesides
import Derived.WalkSpells
namespace Go.Proofs.Qxb6602520a.Leaf
open Go Go.RowKit Plain
set_option linter.unusedVariables false

theorem ret_int {k : IntKind} {a b : Int} (h : a = b) : Ending.returned (.int k a) = .returned (.int k b) := by rw [h]
theorem ret_bool {a b : Bool} (h : a = b) : Ending.returned (.bool a) = .returned (.bool b) := by rw [h]

set_option maxHeartbeats 400000 in
theorem isSpace_any (c : Int) (w : World) :
    Calls Try.prog 32 #[.int .u8 c] w fun e w' => e = .returned (.bool (sp c)) ∧ w' = w := by
  go_enter Try.func32, Try.ntmps32
  go_wp2
  all_goals go_ret
  all_goals exact ⟨ret_bool (by simp_all [sp]), rfl⟩

set_option maxHeartbeats 400000 in
theorem isBlank_any (c : Int) (w : World) :
    Calls Try.prog 19 #[.int .u8 c] w fun e w' => e = .returned (.bool (sp c)) ∧ w' = w := by
  go_enter Try.func19, Try.ntmps19
  go_wp2
  all_goals go_ret
  all_goals exact ⟨ret_bool (by simp_all [sp]), rfl⟩

set_option maxHeartbeats 400000 in
theorem bytes15 (s : ByteArray) (p : Int) (w : World) (h : s.size ≤ 1048576) :
    Calls Try.prog 15 #[.string s, .int .i64 p] w fun e w' => e = .returned (.bool true) ∧ w' = w := by
  go_enter Try.func15, Try.ntmps15
  go_wp2
  go_ret
  exact ⟨rfl, rfl⟩

set_option maxHeartbeats 400000 in
theorem bytes15_no (s : ByteArray) (p : Int) (w : World) (h : 1048576 < s.size) :
    Calls Try.prog 15 #[.string s, .int .i64 p] w fun e w' => e = .returned (.bool false) ∧ w' = w := by
  go_enter Try.func15, Try.ntmps15
  go_wp2
  go_ret
  exact ⟨rfl, rfl⟩

set_option maxHeartbeats 400000 in
theorem bytes18 (s : ByteArray) (p : Int) (w : World) (h : s.size ≤ 1048576) :
    Calls Try.prog 18 #[.string s, .int .i64 p] w fun e w' => e = .returned (.bool true) ∧ w' = w := by
  go_enter Try.func18, Try.ntmps18
  go_wp2
  go_ret
  exact ⟨rfl, rfl⟩

set_option maxHeartbeats 400000 in
theorem bytes18_no (s : ByteArray) (p : Int) (w : World) (h : 1048576 < s.size) :
    Calls Try.prog 18 #[.string s, .int .i64 p] w fun e w' => e = .returned (.bool false) ∧ w' = w := by
  go_enter Try.func18, Try.ntmps18
  go_wp2
  go_ret
  exact ⟨rfl, rfl⟩

theorem cmt_short {s : ByteArray} {i : Nat} (h : s.size ≤ i + 1) : cmtAt s i = false := by
  unfold cmtAt; rw [show decide (i + 1 < s.size) = false from by simp; omega]; rfl
theorem cmt_n1 {s : ByteArray} {i : Nat} (h : i < s.size) (h1 : ¬ ((s[i].toNat : Nat) : Int) = 45) : cmtAt s i = false := by
  unfold cmtAt; rw [byteAt_lt h]; simp [h1]
theorem cmt_n2 {s : ByteArray} {i : Nat} (h : i + 1 < s.size) (h1 : (((s[i + 1].toNat : Nat) : Int) != 45) = true) : cmtAt s i = false := by
  unfold cmtAt; rw [byteAt_lt h]; simp at h1; simp [h1]
theorem cmt_y {s : ByteArray} {i : Nat} (h : i + 1 < s.size) (h1 : ((s[i].toNat : Nat) : Int) = 45) (h2 : (((s[i + 1].toNat : Nat) : Int) != 45) = false) :
    cmtAt s i = (decide (i + 2 = s.size) || sp (byteAt s (i + 2))) := by
  unfold cmtAt; rw [byteAt_lt h, byteAt_lt (Nat.lt_of_succ_lt h)]; simp at h2; simp [h1, h2, h]
theorem cmt_y1 {s : ByteArray} {i : Nat} (h : i + 1 < s.size) (h1 : ((s[i].toNat : Nat) : Int) = 45) (h2 : (((s[i + 1].toNat : Nat) : Int) != 45) = false) (h3 : (i : Int) + 2 = s.size) :
    cmtAt s i = true := by
  rw [cmt_y h h1 h2, show decide (i + 2 = s.size) = true from by simp; omega]; rfl
theorem cmt_y2 {s : ByteArray} {i : Nat} (h : i + 2 < s.size) (h1 : ((s[i].toNat : Nat) : Int) = 45) (h2 : (((s[i + 1].toNat : Nat) : Int) != 45) = false) :
    cmtAt s i = ((i : Int) + 2 == (s.size : Int) || sp ((s[i + 2].toNat : Nat) : Int)) := by
  rw [cmt_y (Nat.lt_of_succ_lt h) h1 h2, show decide (i + 2 = s.size) = ((i : Int) + 2 == (s.size : Int)) from by rw [Bool.eq_iff_iff]; simp; omega, byteAt_lt h]

set_option maxHeartbeats 400000 in
theorem comment_any (s : ByteArray) (i : Nat) (w : World) (h : s.size ≤ 1048576) (hi : i ≤ s.size) :
    Calls Try.prog 20 #[.string s, .int .i64 i] w fun e w' => e = .returned (.bool (cmtAt s i)) ∧ w' = w := by
  go_enter Try.func20, Try.ntmps20
  go_wp2_with (go_at_call 19; refine (isBlank_any _ _).mono ?_; rintro e w' ⟨rfl, rfl⟩)
  all_goals go_ret
  · exact ⟨ret_bool (cmt_short (by omega)).symm, rfl⟩
  · exact ⟨ret_bool (cmt_n2 (by omega) ‹_›).symm, rfl⟩
  · exact ⟨ret_bool (cmt_y1 (by omega) ‹_› ‹_› ‹_›).symm, rfl⟩
  · exact ⟨ret_bool (cmt_y2 (by omega) ‹_› ‹_›).symm, rfl⟩
  · exact ⟨ret_bool (cmt_n1 (by omega) ‹_›).symm, rfl⟩

/-- Do two minus signs stand at p? -/
def dash (s : ByteArray) (p : Nat) : Bool := decide (p + 1 < s.size) && (byteAt s p == 45 && byteAt s (p + 1) == 45)

theorem dash_piece (s : ByteArray) (p : Nat) (h : 2 ≤ s.size - p) : (((s.extract p s.size).extract 0 2).toList == [45, 45]) = dash s p := by
  unfold dash
  rw [Lib.extract_toList, Lib.extract_to_end, byteAt_lt (show p < s.size from by omega), byteAt_lt (show p + 1 < s.size from by omega)]
  have hl : p < s.data.toList.length := by rw [← Lib.size_eq]; omega
  have hl2 : p + 1 < s.data.toList.length := by rw [← Lib.size_eq]; omega
  rw [List.drop_zero, List.drop_eq_getElem_cons hl, List.drop_eq_getElem_cons hl2]
  have e1 : s.data.toList[p] = s[p] := rfl
  have e2 : s.data.toList[p + 1] = s[p + 1] := rfl
  rw [e1, e2, show decide (p + 1 < s.size) = true from by simp; omega]
  rw [Bool.eq_iff_iff]
  simp only [Nat.sub_zero, List.take_succ_cons, List.take_zero, beq_iff_eq, List.cons.injEq, and_true, Bool.true_and, Bool.and_eq_true]
  constructor
  · rintro ⟨a, b⟩; rw [a, b]; exact ⟨rfl, rfl⟩
  · rintro ⟨a, b⟩
    exact ⟨UInt8.toNat_inj.1 (by simpa using (by omega : (s[p]'(by omega)).toNat = 45)), UInt8.toNat_inj.1 (by simpa using (by omega : (s[p + 1]'(by omega)).toNat = 45))⟩
theorem dash_short (s : ByteArray) (p : Nat) (h : s.size - p < 2) : dash s p = false := by
  unfold dash; rw [show decide (p + 1 < s.size) = false from by simp; omega]; rfl

set_option maxHeartbeats 400000 in
theorem hasPrefix_any (s : ByteArray) (p : Nat) (w : World) (h : s.size ≤ 1048576) (hi : p ≤ s.size) :
    Calls Try.prog 33 #[.string (s.extract p s.size), .string ⟨#[45, 45]⟩] w fun e w' => e = .returned (.bool (dash s p)) ∧ w' = w := by
  go_enter Try.func33, Try.ntmps33
  go_wp2
  all_goals go_ret
  · exact ⟨ret_bool (dash_piece s p (by omega)), rfl⟩
  · exact ⟨ret_bool (dash_short s p (by omega)).symm, rfl⟩

set_option maxHeartbeats 400000 in
set_option maxRecDepth 100000 in
theorem indexByte_any (s : ByteArray) (p : Nat) (w : World) :
    Calls Try.prog 34 #[.string (s.extract p s.size), .int .u8 10] w fun e w' => e = .returned (.int .i64 (Lib.indexByte (s.data.toList.drop p) 10)) ∧ w' = w := by
  go_enter Try.func34, Try.ntmps34
  go_wp2
  rw [run_callFunc_extern Try.func39 (by kernel_rfl) (by kernel_rfl) (by kernel_rfl) (e := Extern.BytealgIndexByte.indexByte) (by kernel_rfl), Lib.run_indexByteString]
  simp only [Result.andThen]
  rw [Oper.upon_value]
  go_wp2
  go_ret
  exact ⟨ret_int (by rw [List.take_of_length_le (by rw [List.length_drop, ← Lib.size_eq]; omega)]), rfl⟩

end Go.Proofs.Qxb6602520a.Leaf
