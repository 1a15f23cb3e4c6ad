import Derived.Test.Qxb6602990aHeap
import Derived.WalkLawsBesides
import Derived.WalkSpells
import Derived.BigQuiet
import Derived.Deep.QuietTactic
import Derived.Deep.LoopGhost
import Derived.Deep.Light
namespace Go.Proofs.Qxb6602990a.Leaf
open Go Go.RowKit Plain Heap
set_option linter.unusedVariables false

theorem hide {p : Prop} (h : p) : Hid p := h
theorem unhide {p : Prop} (h : Hid p) : p := h
theorem ret_int {k : IntKind} {a b : Int} (h : a = b) : Ending.returned (.int k a) = .returned (.int k b) := by rw [h]
theorem ret_bool {a b : Bool} (h : a = b) : Ending.returned (.bool a) = .returned (.bool b) := by rw [h]

set_option maxHeartbeats 400000 in
set_option maxRecDepth 100000 in
theorem indexByte_any (s : ByteArray) (w : World) :
    Calls Try.prog 47 #[.string s, .int .u8 46] w fun e w' => e = .returned (.int .i64 (Lib.indexByte s.data.toList 46)) ∧ w' = w := by
  go_enter Try.func47, Try.ntmps47
  go_wp2
  rw [run_callFunc_extern Try.func51 (by kernel_rfl) (by kernel_rfl) (by kernel_rfl) (e := Extern.BytealgIndexByte.indexByte) (by kernel_rfl), Lib.run_indexByteString]
  simp only [Result.andThen]
  rw [Oper.upon_value]
  go_wp2
  go_ret
  exact ⟨rfl, rfl⟩

set_option maxHeartbeats 400000 in
theorem index_any (s : ByteArray) (w : World) (hs : s.size ≤ 2097152) :
    Calls Try.prog 46 #[.string s, .string ⟨#[46]⟩] w fun e w' => e = .returned (.int .i64 (Lib.indexByte s.data.toList 46)) ∧ w' = w := by
  go_enter Try.func46, Try.ntmps46
  go_wp2_with (first | (go_at_call 47; refine (indexByte_any _ _).mono ?_; rintro e w' ⟨rfl, rfl⟩))
  all_goals go_ret
  · have h : ([46] == s.toList) = true := by assumption
    refine ⟨ret_int ?_, rfl⟩
    rw [← Lib.toList_data, ← (by simpa using h : [46] = s.toList)]; rfl
  · exact ⟨rfl, rfl⟩

theorem index_is {s : ByteArray} {r : Int} (h : Lib.indexByte s.data.toList 46 = r) (w : World) (hs : s.size ≤ 2097152) :
    Calls Try.prog 46 #[.string s, .string ⟨#[46]⟩] w fun e w' => e = .returned (.int .i64 r) ∧ w' = w := by
  subst h; exact index_any s w hs

set_option maxHeartbeats 400000 in
theorem cut45_hit (s : ByteArray) (i : Nat) (w : World) (hs : s.size ≤ 2097152) (h : Lib.indexByte s.data.toList 46 = i) (hi : i < s.size) :
    Calls Try.prog 45 #[.string s, .string ⟨#[46]⟩] w fun e w' => e = .returned (.tuple #[.string (s.extract 0 i), .string (s.extract (i + 1) s.size), .bool true]) ∧ ∃ n, w' = w.drewN n := by
  have H := hide h
  clear h
  go_enter Try.func45, Try.ntmps45
  go_wp2_with (first | (go_at_call 46; refine (index_is (unhide H) _ hs).mono ?_; rintro e w' ⟨rfl, rfl⟩))
  go_quiet (fail)
  go_wp2
  go_ret3
  exact ⟨rfl, _, rfl⟩
set_option maxHeartbeats 400000 in
theorem cut45_miss (s : ByteArray) (w : World) (hs : s.size ≤ 2097152) (h : Lib.indexByte s.data.toList 46 = -1) :
    Calls Try.prog 45 #[.string s, .string ⟨#[46]⟩] w fun e w' => e = .returned (.tuple #[.string s, .string ⟨#[]⟩, .bool false]) ∧ ∃ n, w' = w.drewN n := by
  have H := hide h
  clear h
  go_enter Try.func45, Try.ntmps45
  go_wp2_with (first | (go_at_call 46; refine (index_is (unhide H) _ hs).mono ?_; rintro e w' ⟨rfl, rfl⟩))
  go_ret3
  exact ⟨rfl, 0, rfl⟩

theorem size_bs (l : List UInt8) : (bs l).size = l.length := rfl
theorem data_bs (l : List UInt8) : (bs l).data.toList = l := rfl
theorem extract_bs (l : List UInt8) (a b : Nat) : (bs l).extract a b = bs ((l.drop a).take (b - a)) := by
  rw [bs_of ((bs l).extract a b), Lib.extract_data, data_bs]

theorem cut45_is {t : List UInt8} {r : List (List UInt8)} (ht : Tok t) (w : World) (hs : (join (t :: r)).length ≤ 2097152) :
    Calls Try.prog 45 #[.string (bs (join (t :: r))), .string ⟨#[46]⟩] w fun e w' => e = .returned (.tuple #[.string (bs t), .string (bs (join r)), .bool (!r.isEmpty)]) ∧ ∃ n, w' = w.drewN n := by
  cases r with
  | nil => exact cut45_miss _ w hs (index_miss t ht.2)
  | cons u r =>
    have hj : join (t :: u :: r) = t ++ 46 :: join (u :: r) := rfl
    have hl : (bs (join (t :: u :: r))).size = t.length + 1 + (join (u :: r)).length := by rw [size_bs, hj]; simp; omega
    have := cut45_hit (bs (join (t :: u :: r))) t.length w hs (by rw [data_bs, hj]; exact index_hit t _ ht.2) (by rw [hl]; omega)
    rw [extract_bs, extract_bs, hl] at this
    have e1 : ((join (t :: u :: r)).drop 0).take (t.length - 0) = t := by rw [hj]; simp
    have e2 : ((join (t :: u :: r)).drop (t.length + 1)).take (t.length + 1 + (join (u :: r)).length - (t.length + 1)) = join (u :: r) := by
      rw [hj, show t ++ 46 :: join (u :: r) = (t ++ [46]) ++ join (u :: r) from by simp, List.drop_left' (by simp), Nat.add_sub_cancel_left, List.take_length]
    rw [e1, e2] at this
    exact this

set_option maxHeartbeats 400000 in
theorem cut_is {t : List UInt8} {r : List (List UInt8)} (ht : Tok t) (w : World) (hs : (join (t :: r)).length ≤ 2097152) :
    Calls Try.prog 43 #[.string (bs (join (t :: r))), .string ⟨#[46]⟩] w fun e w' => e = .returned (.tuple #[.string (bs t), .string (bs (join r)), .bool (!r.isEmpty)]) ∧ ∃ n, w' = w.drewN n := by
  have key := fun w => cut45_is ht w hs
  obtain ⟨X, hX⟩ : ∃ X, X = bs (join (t :: r)) := ⟨_, rfl⟩
  obtain ⟨Y, hY⟩ : ∃ Y, Y = bs t := ⟨_, rfl⟩
  obtain ⟨Z, hZ⟩ : ∃ Z, Z = bs (join r) := ⟨_, rfl⟩
  obtain ⟨b, hb⟩ : ∃ b, b = !r.isEmpty := ⟨_, rfl⟩
  rw [← hX, ← hY, ← hZ, ← hb] at key
  rw [← hX, ← hY, ← hZ, ← hb]
  have K := hide key
  clear key hX hY hZ hb hs ht
  go_enter Try.func43, Try.ntmps43
  go_wp2_with (first | (go_at_call 45; refine (unhide K _).mono ?_; rintro e w' ⟨rfl, n, rfl⟩))
  go_ret3
  exact ⟨rfl, _, rfl⟩

end Go.Proofs.Qxb6602990a.Leaf
