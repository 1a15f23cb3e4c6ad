import Derived.Test.Qxb6604007aLeaf
import Derived.Laws.CopyOwn
import Derived.Deep.OwnRows
import Derived.Lib.SliceRun
import Derived.Deep.WholeRow
namespace Go.Proofs.Qxb6604007a.Leaf
open Go Go.RowKit Plain
set_option linter.unusedVariables false

set_option maxHeartbeats 400000 in
theorem zzend {w : World} {b n c k : Nat} {B : Nat → UInt8} (h : Row w b n B) (hn : n ≤ 1048576) (hc : n ≤ c) (hc2 : c ≤ maxLen) (hk : k < n) (hq : B k = 34) {r : Int} (hr : mdl n B (k + 1) = r) :
    Calls Try.prog 16 #[.slice (some ⟨b, 0, none⟩) n c, .int .i64 (k : Int)] w fun e w' => e = .returned (.int .i64 r) ∧ w' = w := by
  have K := hide (end_all h hn hc hc2 hk hq)
  rw [hr] at K
  clear hr h hq
  go_enter Try.func16, Try.ntmps16
  go_wp2_with fail
  refine (unhide K).mono ?_
  rintro e w' ⟨rfl, rfl⟩
  go_wp2_with fail
  go_ret
  exact ⟨rfl, rfl⟩

set_option maxHeartbeats 1000000 in
theorem model_all {w : World} {b n c k : Nat} {B : Nat → UInt8} (h : Row w b n B) (hn : n ≤ 1048576) (hk : k < n) {r : Int} (hr : mdl n B (k + 1) = r) :
    Calls Try.prog 17 #[.slice (some ⟨b, 0, none⟩) n c, .int .i64 (k : Int)] w fun e w' => e = .returned (.int .i64 r) ∧ w' = w := by
  have HB := hide h
  have HR := hide hr
  clear h hr
  go_enter Try.func17, Try.ntmps17
  go_wp2_with fail
  go_loopg [5] (n - (k + 1)) (fun g v wr => ∃ j, g = n - j ∧ v = .int .i64 (j : Int) ∧ wr = w ∧ j ≤ n + 1 ∧ Hid (mdl n B j = r))
  case atStart => exact ⟨k + 1, rfl, by simp, rfl, by omega, unhide HR⟩
  case round =>
    obtain ⟨j, rfl, rfl, rfl, hj1, H⟩ := hrel
    by_cases hlt : j < n
    · have hcell : wr.cell? ⟨b, j, none⟩ = some (.int .u8 ((B j).toNat : Int)) := unhide HB _ hlt
      by_cases h34 : B j = 34
      · have hx : (((B j).toNat : Int) == 34) = true := by rw [h34]; rfl
        have FIN : Hid (r = (j : Int) + 1) := (unhide H).symm.trans (mdl_quote hlt h34)
        clear H h34
        go_wp2_with fail
        go_ret
        exact ⟨by rw [unhide FIN]; rfl, rfl⟩
      · have hx : (((B j).toNat : Int) == 34) = false := by
          simp only [beq_eq_false_iff_ne, ne_eq]
          intro e
          exact h34 (UInt8.toNat_inj.1 (by rw [show (34 : UInt8).toNat = 34 from rfl]; omega))
        by_cases h92 : B j = 92
        · have hy : (((B j).toNat : Int) == 92) = true := by rw [h92]; rfl
          have H2 := hide ((mdl_esc hlt h92).symm.trans (unhide H))
          clear H h34 h92
          go_wp2_with fail
          go_roundg (n - (j + 2))
          case measure => omega
          case rel => exact ⟨j + 2, rfl, by simp, rfl, by omega, unhide H2⟩
        · have hy : (((B j).toNat : Int) == 92) = false := by
            simp only [beq_eq_false_iff_ne, ne_eq]
            intro e
            exact h92 (UInt8.toNat_inj.1 (by rw [show (92 : UInt8).toNat = 92 from rfl]; omega))
          have H2 := hide ((mdl_plain hlt h34 h92).symm.trans (unhide H))
          clear H h34 h92
          go_wp2_with fail
          go_roundg (n - (j + 1))
          case measure => omega
          case rel => exact ⟨j + 1, rfl, by simp, rfl, by omega, unhide H2⟩
    · have FIN : Hid (r = -1) := (unhide H).symm.trans (mdl_past n B j (by omega))
      clear H
      go_wp2_with fail
      go_ret
      exact ⟨by rw [unhide FIN]; rfl, rfl⟩

theorem info5 : (Try.prog.info? 5).map (fun i => (i.zero, i.size, i.bytes)) = some (some (.int .u8 0), 1, 1) := by kernel_rfl
theorem size5 : (Try.prog.info? 5).map (·.size) = some 1 := by kernel_rfl

/-- The bytes that a slice's cells hold. -/
def Holds (w : World) (x : Addr) (n : Nat) (B : Nat → UInt8) : Prop := ∀ i, i < n → w.cell? (x.add i) = some (.int .u8 ((B i).toNat : Int))

/-- The cells of the bytes. -/
def cellsOf (n : Nat) (B : Nat → UInt8) : List Value := (List.range n).map fun i => Value.int .u8 ((B i).toNat : Int)
theorem cellsOf_at {n : Nat} {B : Nat → UInt8} {j : Nat} {v : Value} (h : (cellsOf n B)[j]? = some v) : j < n ∧ v = .int .u8 ((B j).toNat : Int) := by
  unfold cellsOf at h
  rw [List.getElem?_map] at h
  have hjn : j < n := by
    by_cases e : j < n
    · exact e
    · rw [List.getElem?_eq_none (by simp; omega)] at h; cases h
  rw [List.getElem?_range hjn] at h
  simp only [Option.map_some, Option.some.injEq] at h
  exact ⟨hjn, h.symm⟩
theorem cellsOf_one {n : Nat} {B : Nat → UInt8} : ∀ v ∈ cellsOf n B, v.oneCell' = true := by
  intro v hv
  unfold cellsOf at hv
  simp at hv
  obtain ⟨i, _, rfl⟩ := hv
  rfl
theorem cellsOf_len (n : Nat) (B : Nat → UInt8) : (cellsOf n B).length = n := by simp [cellsOf]
theorem cellsOf_get {n i : Nat} (B : Nat → UInt8) (h : i < n) : (cellsOf n B)[i]? = some (.int .u8 ((B i).toNat : Int)) := by simp [cellsOf, h]

theorem cell_blk {w : World} {p : Addr} {v : Value} (h : w.cell? p = some v) : p.block < w.heap.size := by
  by_cases e : p.block < w.heap.size
  · exact e
  · unfold World.cell? at h
    rw [Array.getElem?_eq_none (by omega)] at h
    cases h

theorem copy_made {w : World} {x : Addr} {n c : Nat} {B : Nat → UInt8} (h : Holds w x n B) :
    (Builtin.copy_ #[22, 22] 3 #[.slice (some ⟨w.heap.size, 0, none⟩) n n, .slice (some x) n c]).run Try.prog (w.alloc (.cells (madeCells #[.int .u8 0] n) 5)) = .ok (.int .i64 (n : Int)) (w.alloc (.cells (cellsOf n B).toArray 5)) := by
  have := run_copy_row (P := Try.prog) (w.alloc (.cells (madeCells #[.int .u8 0] n) 5)) 22 22 3 5 w.heap.size 0 n n x n c (madeCells #[.int .u8 0] n) 5 (cellsOf n B) Try.underlying22 size5 (heap_alloc_new _ _) (by rw [cellsOf_len]; simp) (fun j v hj => by
    obtain ⟨hjn, rfl⟩ := cellsOf_at hj
    rw [((Below.refl _ w).alloc (Nat.le_refl _) _).cell (cell_blk (h j hjn))]
    exact h j hjn) (by rw [cellsOf_len, size_madeCells]; omega) cellsOf_one
  rw [this, World.setRow_alloc_new, cellsOf_len]
  have e : (List.take 0 (madeCells #[Value.int .u8 0] n).toList ++ cellsOf n B ++ List.drop (0 + n) (madeCells #[Value.int .u8 0] n).toList) = cellsOf n B := by
    rw [List.drop_eq_nil_of_le (by simp [size_madeCells])]
    simp
  rw [e]
  rfl

set_option maxHeartbeats 1000000 in
theorem clone_all {w : World} {x : Addr} {n c : Nat} {B : Nat → UInt8} (h : Holds w x n B) (hn : n ≤ 1048576) :
    Calls Try.prog 10 #[.slice (some x) n c] w fun e w' => e = .returned (.slice (some ⟨w.heap.size, 0, none⟩) n n) ∧ (Row w' w.heap.size n B ∧ Below w.heap.size w w' ∧ w.heap.size < w'.heap.size) := by
  have hmk := fun w => run_make_row' (P := Try.prog) 22 5 (.int .u8 0) 1 Try.underlying22 info5 rfl .i64 .i64 n (by omega) (by omega) w
  have heq : ∀ w, (binOp .eql 22 (.slice (some x) n c) (.slice none 0 0)).run Try.prog w = .ok (.bool false) w := fun w => Lib.run_eql_slice_nil w 22 5 (some x) n c 0 0 Try.underlying22
  have hcp := copy_made (c := c) h
  have FIN : Hid (Row (w.alloc (.cells (cellsOf n B).toArray 5)) w.heap.size n B ∧ Below w.heap.size w (w.alloc (.cells (cellsOf n B).toArray 5)) ∧ w.heap.size < (w.alloc (.cells (cellsOf n B).toArray 5)).heap.size) := by
    refine ⟨fun i hi => ?_, (Below.refl _ w).alloc (Nat.le_refl _) _, by simp⟩
    rw [Lib.cell_of_heap (heap_alloc_new _ _), List.getElem?_toArray, cellsOf_get B hi]
  obtain ⟨X, hX⟩ : ∃ X, X = (cellsOf n B).toArray := ⟨_, rfl⟩
  rw [← hX] at hcp FIN
  clear hX h
  go_enter Try.func10, Try.ntmps10
  go_wp2
  go_ret
  exact ⟨rfl, unhide FIN⟩

set_option maxHeartbeats 400000 in
theorem clone_nil (w : World) : Calls Try.prog 10 #[.slice none 0 0] w fun e w' => e = .returned (.slice none 0 0) ∧ w' = w := by
  have heq : ∀ w, (binOp .eql 22 (.slice none 0 0) (.slice none 0 0)).run Try.prog w = .ok (.bool true) w := fun w => Lib.run_eql_slice_nil w 22 5 none 0 0 0 0 Try.underlying22
  go_enter Try.func10, Try.ntmps10
  go_wp2_with fail
  go_ret
  exact ⟨rfl, rfl⟩
end Go.Proofs.Qxb6604007a.Leaf
