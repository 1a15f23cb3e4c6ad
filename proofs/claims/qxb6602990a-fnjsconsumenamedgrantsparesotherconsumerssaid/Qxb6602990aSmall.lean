import Derived.Test.Qxb6602990aSubj
namespace Go.Proofs.Qxb6602990a.Leaf
open Go Go.RowKit Plain Heap
set_option linter.unusedVariables false

/-- Is the text one token of a subject? -/
def natsB (l : List UInt8) : Bool := !l.isEmpty && !(l == [62]) && !l.contains 46

theorem nats_tok {l : List UInt8} (h : natsB l = true) : Tok l ∧ l ≠ gt := by
  unfold natsB at h
  simp at h
  exact ⟨⟨h.1.1, h.2⟩, h.1.2⟩

theorem data_at (s : ByteArray) (j : Nat) (h : j < s.size) : s.data.toList[j]? = some s[j] := Lib.data_getElem? s j h

theorem nats_dot {s : ByteArray} {j : Nat} (h : j < s.size) (hd : ((s[j].toNat : Nat) : Int) = 46) : natsB s.data.toList = false := by
  have h1 : s[j] = 46 := UInt8.toNat_inj.1 (by simpa using (by omega : s[j].toNat = 46))
  have h2 : (46 : UInt8) ∈ s.data.toList := by
    rw [← h1]; exact List.mem_of_getElem? (data_at s j h)
  unfold natsB
  rw [show s.data.toList.contains 46 = true from by simpa using h2]; simp
theorem nats_all {s : ByteArray} (h0 : s.toList.isEmpty = false) (h1 : (s.toList == [62]) = false) (h : ∀ j (h : j < s.size), ¬ ((s[j].toNat : Nat) : Int) = 46) : natsB s.data.toList = true := by
  unfold natsB
  rw [Lib.toList_data] at h0 h1
  rw [h0, h1, show s.data.toList.contains 46 = false from ?_]; rfl
  rw [Bool.eq_false_iff]
  intro hc
  have hm : (46 : UInt8) ∈ s.data.toList := by simpa using hc
  obtain ⟨j, hj⟩ := List.mem_iff_getElem?.1 hm
  have hl : j < s.size := by
    rw [Lib.size_eq]; exact (List.getElem?_eq_some_iff.1 hj).1
  rw [data_at s j hl] at hj
  exact h j hl (by rw [Option.some.inj hj]; rfl)

set_option maxHeartbeats 400000 in
theorem nats_any (s : ByteArray) (w : World) (hs : s.size ≤ 1048576) :
    Calls Try.prog 22 #[.string s] w fun e w' => e = .returned (.bool (natsB s.data.toList)) ∧ w' = w := by
  by_cases h0 : s.size = 0
  · have hn : natsB s.data.toList = false := by
      have : s.data.toList = [] := List.length_eq_zero_iff.1 (by rw [← Lib.size_eq]; exact h0)
      rw [this]; rfl
    have h0' : ((s.size : Int) == 0) = true := by simp [h0]
    have HN := hide hn
    clear hn h0
    go_enter Try.func22, Try.ntmps22
    go_wp2
    go_ret
    exact ⟨ret_bool (unhide HN).symm, rfl⟩
  · have h0' : ((s.size : Int) == 0) = false := by rw [beq_eq_false_iff_ne]; omega
    have hpos : 0 < s.size := by omega
    have he : s.toList.isEmpty = false := by
      rw [Lib.toList_data]
      have : s.data.toList ≠ [] := fun e => h0 (by rw [Lib.size_eq, e]; rfl)
      simpa using this
    have HE := hide he
    clear h0 he
    cases hgt : (s.toList == [62]) with
    | true =>
      have hn : natsB s.data.toList = false := by
        unfold natsB; rw [← Lib.toList_data, hgt]; simp
      have HN := hide hn
      clear hn
      go_enter Try.func22, Try.ntmps22
      go_wp2
      go_ret
      exact ⟨ret_bool (unhide HN).symm, rfl⟩
    | false =>
      have HG := hide hgt
      go_enter Try.func22, Try.ntmps22
      go_wp2
      go_loopg [3] s.size (fun g i wr => ∃ k : Nat, i = .int .i64 k ∧ k ≤ s.size ∧ g = s.size - k ∧ Hid (∀ j (h : j < s.size), j < k → ¬ ((s[j].toNat : Nat) : Int) = 46) ∧ wr = w)
      case atStart => exact ⟨0, rfl, Nat.zero_le _, rfl, (fun j _ h => absurd h (Nat.not_lt_zero _)), rfl⟩
      case round =>
        obtain ⟨k, rfl, hk, rfl, HA, rfl⟩ := hrel
        by_cases hlt : k < s.size
        · by_cases hd : ((s[k].toNat : Nat) : Int) = 46
          · have hdb : (((s[k].toNat : Nat) : Int) == 46) = true := by simpa using hd
            have HN := hide (nats_dot hlt hd)
            clear hd
            go_wp2
            go_ret
            exact ⟨ret_bool (unhide HN).symm, rfl⟩
          · have hdb : (((s[k].toNat : Nat) : Int) == 46) = false := by simpa using hd
            have HD := hide hd
            clear hd
            go_wp2
            clear hdb
            go_roundg (s.size - (k + 1))
            case measure => omega
            case rel =>
              refine ⟨k + 1, by go_num, by omega, rfl, ?_, rfl⟩
              intro j hj hjk
              by_cases e : j = k
              · subst e; exact unhide HD
              · exact unhide HA j hj (by omega)
        · go_wp2
          go_ret
          exact ⟨ret_bool (nats_all (unhide HE) (unhide HG) (fun j hj => unhide HA j hj (by omega))).symm, rfl⟩

theorem nats_is {s : ByteArray} {b : Bool} (h : natsB s.data.toList = b) (w : World) (hs : s.size ≤ 1048576) :
    Calls Try.prog 22 #[.string s] w fun e w' => e = .returned (.bool b) ∧ w' = w := by
  subst h; exact nats_any s w hs

set_option maxHeartbeats 400000 in
theorem bytes21 (k : Int) (a b : ByteArray) (w : World) (ha : a.size ≤ maxLen) (hb : b.size ≤ maxLen) (h : a.size + b.size ≤ 1048576) :
    Calls Try.prog 21 #[.int .i64 k, .string a, .string b] w fun e w' => e = .returned (.bool true) ∧ w' = w := by
  unfold maxLen at ha hb
  go_enter Try.func21, Try.ntmps21
  go_wp2
  go_ret
  exact ⟨rfl, rfl⟩
set_option maxHeartbeats 400000 in
theorem bytes21_no (k : Int) (a b : ByteArray) (w : World) (ha : a.size ≤ maxLen) (hb : b.size ≤ maxLen) (h : 1048576 < a.size + b.size) :
    Calls Try.prog 21 #[.int .i64 k, .string a, .string b] w fun e w' => e = .returned (.bool false) ∧ w' = w := by
  unfold maxLen at ha hb
  go_enter Try.func21, Try.ntmps21
  go_wp2
  all_goals go_ret
  all_goals exact ⟨rfl, rfl⟩

set_option maxHeartbeats 400000 in
theorem zzjs_of {V : List ByteArray} (k : Int) (s c : ByteArray) (P : Nat) (w : World) (hPl : P < w.heap.size) (h0 : w.cell? ⟨P, 0, none⟩ = some (.slice none 0 0)) (f0 : w.frozen? ⟨P, 0, none⟩ = false)
    (H : ∀ w, P < w.heap.size → w.cell? ⟨P, 0, none⟩ = some (.slice none 0 0) → w.frozen? ⟨P, 0, none⟩ = false →
      Calls Try.prog 38 #[.agg #[.int .i64 k, .string s, .string c], .pointer (some ⟨P, 0, none⟩)] w fun e w' => e = .returned (.tuple #[]) ∧ JsPost w w' P V) :
    Calls Try.prog 23 #[.agg #[.int .i64 k, .string s, .string c], .pointer (some ⟨P, 0, none⟩)] w fun e w' => e = .returned (.tuple #[]) ∧ JsPost w w' P V := by
  have HH := hide H
  clear H
  go_enter Try.func23, Try.ntmps23
  go_wp2_with (fail)
  refine (unhide HH _ (by simp; omega) (by rw [World.cell?_alloc_past _ _ _ hPl]; exact h0) (by rw [World.frozen?_alloc_past _ _ _ hPl]; exact f0)).mono ?_
  rintro e w' ⟨rfl, hp⟩
  have HP := hide hp
  clear hp
  go_wp2
  go_end0
  refine ⟨rfl, ?_⟩
  obtain ⟨g, cap, h1, h2, h3, h4, h5⟩ := unhide HP
  have hs := h5.size
  simp at hs h2
  refine ⟨g, cap, h1, by omega, h3, h4, h5.os, h5.tape, h5.output, by omega, fun b hb hne => ?_⟩
  rw [h5.block b (by simp; omega) hne, Below.heap_alloc _ _ _ hb]
end Go.Proofs.Qxb6602990a.Leaf
