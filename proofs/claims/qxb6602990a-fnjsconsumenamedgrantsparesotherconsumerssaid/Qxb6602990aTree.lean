import Derived.Test.Qxb6602990aAdd
namespace Go.Proofs.Qxb6602990a.Leaf
open Go Go.RowKit Plain Heap
set_option linter.unusedVariables false

/-- From block B on, w holds the tree of the entries L, its root at block root. -/
def TreeAt (w : World) (B root : Nat) (L : List (List (List UInt8))) : Prop := ∃ nd mp en, Inv w B root nd mp en ∧ Spec nd en L

theorem TreeAt.kept {w w' : World} {B root : Nat} {L : List (List (List UInt8))} (h : TreeAt w B root L) (hk : ∀ b, B ≤ b → b < w.heap.size → w'.heap[b]? = w.heap[b]?) : TreeAt w' B root L := by
  obtain ⟨nd, mp, en, hI, hS⟩ := h
  exact ⟨nd, mp, en, hI.kept hk, hS⟩

theorem spec_new (b : Nat) : Spec (fun p => if p = [] then some b else none) (fun _ => false) [] := by
  have hn : ∀ p, dvs p ([] : List (List (List UInt8))) = [] := by
    intro p
    induction p with
    | nil => rfl
    | cons t p ih => exact ih
  refine ⟨fun p hp => ?_, fun p => by simp⟩
  show (if p = [] then some b else none).isSome = true ↔ _
  rw [if_neg hp, hn p]; simp

/-- A subject: tokens, at least one. -/
def Subj (s : List (List UInt8)) : Prop := (∀ t ∈ s, Tok t) ∧ s ≠ [] ∧ (join s).length ≤ 2097152

set_option maxHeartbeats 400000 in
theorem zzadd_all {B root : Nat} {L : List (List (List UInt8))} {s : List (List UInt8)} (hs : Subj s) (w : World) (hB : B ≤ w.heap.size) (hT : TreeAt w B root L) :
    Calls Try.prog 40 #[.pointer (some ⟨root, 0, none⟩), .string (bs (join s))] w fun e w' => e = .returned (.tuple #[]) ∧ TreeAt w' B root (s :: L) ∧ Below B w w' := by
  obtain ⟨nd, mp, en, hI, hS⟩ := hT
  have key := add_all s hs.1 hs.2.1 hs.2.2 w hB hI hS
  obtain ⟨X, hX⟩ : ∃ X, X = bs (join s) := ⟨_, rfl⟩
  rw [← hX] at key
  rw [← hX]
  have K := hide key
  clear key hX hI hS hs
  go_enter Try.func40, Try.ntmps40
  go_wp2_with (fail)
  refine (unhide K).mono ?_
  rintro e w' ⟨rfl, h1, h2⟩
  have H := hide (And.intro h1 h2)
  clear h1 h2
  go_wp2
  go_end0
  exact ⟨rfl, (unhide H).1, (unhide H).2⟩

set_option maxHeartbeats 400000 in
theorem zzcovers_all {B root : Nat} {L : List (List (List UInt8))} {s : List (List UInt8)} (hs : Subj s) (w : World) (hT : TreeAt w B root L) {b : Bool} (hb : cov L s = b) :
    Calls Try.prog 25 #[.pointer (some ⟨root, 0, none⟩), .string (bs (join s)), .bool false] w fun e w' => e = .returned (.bool b) ∧ ∃ n, w' = w.drewN n := by
  obtain ⟨nd, mp, en, hI, hS⟩ := hT
  have key := covers_all hS s hs.1 hs.2.2 [] root w hI hI.rt
  rw [show dvs [] L = L from rfl, hb] at key
  obtain ⟨X, hX⟩ : ∃ X, X = bs (join s) := ⟨_, rfl⟩
  rw [← hX] at key
  rw [← hX]
  have K := hide key
  clear key hX hI hS hs hb
  go_enter Try.func25, Try.ntmps25
  go_wp2_with (fail)
  refine (unhide K).mono ?_
  rintro e w' ⟨rfl, n, rfl⟩
  go_wp2
  go_ret
  exact ⟨rfl, n, rfl⟩

/-- The cells of a slice of subjects. -/
def Rows (w : World) (g : Nat) (S : List (List (List UInt8))) : Prop := g < w.heap.size ∧ ∀ i, (h : i < S.length) → w.cell? ⟨g, i, none⟩ = some (.string (bs (join S[i])))

set_option maxHeartbeats 400000 in
theorem treeOf_all {S : List (List (List UInt8))} (hS : ∀ s ∈ S, Subj s) (hlen : S.length ≤ 100) (g cap : Nat) (w : World) (hR : Rows w g S) :
    Calls Try.prog 24 #[.slice (some ⟨g, 0, none⟩) S.length cap] w fun e w' => ∃ root, e = .returned (.pointer (some ⟨root, 0, none⟩)) ∧ TreeAt w' w.heap.size root S.reverse ∧ Below w.heap.size w w' := by
  have HS := hide hS
  have HR := hide hR
  clear hS hR
  go_enter Try.func24, Try.ntmps24
  go_wp2
  go_loopg [4] S.length (fun k i wr => ∃ j : Nat, i = .int .i64 j ∧ j ≤ S.length ∧ k = S.length - j ∧ Hid (TreeAt wr w.heap.size w.heap.size (S.take j).reverse ∧ Below w.heap.size w wr))
  case atStart =>
    exact ⟨0, rfl, Nat.zero_le _, rfl, ⟨_, _, _, inv_new w, spec_new _⟩, (Below.refl _ _).alloc (Nat.le_refl _) _⟩
  case round =>
    obtain ⟨j, rfl, hj, rfl, HT⟩ := hrel
    by_cases hlt : j < S.length
    · have hc : wr.cell? ⟨g, j, none⟩ = some (.string (bs (join S[j]))) := ((unhide HT).2.cell (p := ⟨g, j, none⟩) (unhide HR).1).trans ((unhide HR).2 j hlt)
      have key := zzadd_all (unhide HS S[j] (List.getElem_mem hlt)) wr (Nat.le_of_lt (Nat.lt_of_lt_of_le (by have := (unhide HR).1; omega) (unhide HT).2.size) |> fun h => Nat.le_trans (Nat.le_refl _) (unhide HT).2.size) (unhide HT).1
      obtain ⟨X, hX⟩ : ∃ X, X = bs (join S[j]) := ⟨_, rfl⟩
      rw [← hX] at key hc
      have K := hide key
      clear key hX
      go_wp2_with (fail)
      refine (unhide K).mono ?_
      rintro e w' ⟨rfl, h1, h2⟩
      have H := hide (And.intro h1 h2)
      clear h1 h2
      go_wp2
      go_roundg (S.length - (j + 1))
      case measure => omega
      case rel =>
        refine ⟨j + 1, by go_num, by omega, rfl, ?_, (unhide HT).2.trans (unhide H).2⟩
        rw [List.take_succ_eq_append_getElem hlt, List.reverse_append]
        exact (unhide H).1
    · obtain rfl : j = S.length := by omega
      go_wp2
      go_ret
      refine ⟨w.heap.size, rfl, ?_, (unhide HT).2⟩
      have := (unhide HT).1
      rwa [List.take_length] at this
end Go.Proofs.Qxb6602990a.Leaf
