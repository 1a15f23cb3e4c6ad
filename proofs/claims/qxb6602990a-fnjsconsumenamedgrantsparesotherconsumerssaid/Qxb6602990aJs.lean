import Derived.Test.Qxb6602990aTree
import Derived.Deep.AppendLies
namespace Go.Proofs.Qxb6602990a.Leaf
open Go Go.RowKit Plain Heap
set_option linter.unusedVariables false

theorem info9 : (Try.prog.info? 9).map (fun i => (i.zero, i.size, i.bytes)) = some (some (.string ByteArray.empty), 1, 16) := by kernel_rfl
/-- The walk stands here. -/
theorem stand {p : Prop} (h : Hid p) : p := h

/-- What jsConsume leaves: the field Pub of the struct in block P holds a slice of the strings V, in new memory; nothing else has turned. -/
def JsPost (w w' : World) (P : Nat) (V : List ByteArray) : Prop :=
  ∃ g cap, w'.cell? ⟨P, 0, none⟩ = some (.slice (some ⟨g, 0, none⟩) V.length cap) ∧ w.heap.size ≤ g ∧ g < w'.heap.size ∧ (∀ i (h : i < V.length), w'.cell? ⟨g, i, none⟩ = some (.string V[i])) ∧ w.grownBy w' (some P)

theorem own_ge {w : World} {base : Nat} {e : TypeId} {size : Nat} {g n cap : Nat} {xs : List Value} (h : w.ownsRow base e size (.slice (some ⟨g, 0, none⟩) n cap) n xs) (hn : 0 < n) : base ≤ g := by
  obtain ⟨g', cap', h1, h2, _⟩ := h.form hn
  cases h1; exact h2

theorem size_setCell (w : World) (a : Addr) (v : Value) : (w.setCell a v).heap.size = w.heap.size := by simp [World.setCell]
theorem alloc_set_new (w : World) (a : Addr) (v : Value) (o : Obj) : ((w.setCell a v).alloc o).heap[w.heap.size]? = some o := by
  have := heap_alloc_new (w.setCell a v) o
  rwa [size_setCell] at this

theorem js_mid {w w1 : World} {P : Nat} {o1 o2 : Obj} (hPl : P < w.heap.size) (h0 : w.cell? ⟨P, 0, none⟩ = some (.slice none 0 0)) (f0 : w.frozen? ⟨P, 0, none⟩ = false) (hg : ((w.alloc o1).alloc o2).grownBy w1 none) (v : Value) :
    w1.cell? ⟨P, 0, none⟩ = some (.slice none 0 0) ∧ w1.frozen? ⟨P, 0, none⟩ = false ∧ P < w1.heap.size ∧ (w1.setCell ⟨P, 0, none⟩ v).cell? ⟨P, 0, none⟩ = some v ∧ w.heap.size ≤ w1.heap.size := by
  have hsz := hg.size
  simp at hsz
  have hl : P < ((w.alloc o1).alloc o2).heap.size := by simp; omega
  have hc : w1.cell? ⟨P, 0, none⟩ = some (.slice none 0 0) := by
    rw [hg.cell_far ⟨P, 0, none⟩ hl (by simp), World.cell?_alloc_past _ _ _ (by simp; omega), World.cell?_alloc_past _ _ _ hPl]; exact h0
  have hf : w1.frozen? ⟨P, 0, none⟩ = false := by
    rw [hg.frozen_far ⟨P, 0, none⟩ hl (by simp), World.frozen?_alloc_past _ _ _ (by simp; omega), World.frozen?_alloc_past _ _ _ hPl]; exact f0
  exact ⟨hc, hf, by omega, World.cell?_setCell_same _ _ _ hc, by omega⟩

theorem js_mid2 {w w1 w2 : World} {P g : Nat} {o : Obj} {v : Value} (hPl : P < w.heap.size) (hge : w.heap.size ≤ g) (f1 : w1.frozen? ⟨P, 0, none⟩ = false) (l1 : P < w1.heap.size) (c1 : (w1.setCell ⟨P, 0, none⟩ v).cell? ⟨P, 0, none⟩ = some v)
    (hg : ((w1.setCell ⟨P, 0, none⟩ v).alloc o).grownBy w2 (some g)) :
    w2.cell? ⟨P, 0, none⟩ = some v ∧ w2.frozen? ⟨P, 0, none⟩ = false ∧ P < w2.heap.size := by
  have hsz := hg.size
  simp at hsz
  have hl : P < ((w1.setCell ⟨P, 0, none⟩ v).alloc o).heap.size := by simp; omega
  have hne : some (⟨P, 0, none⟩ : Addr).block ≠ some g := by simp; omega
  refine ⟨?_, ?_, by omega⟩
  · rw [hg.cell_far ⟨P, 0, none⟩ hl hne, World.cell?_alloc_past _ _ _ (by rw [size_setCell]; exact l1)]; exact c1
  · rw [hg.frozen_far ⟨P, 0, none⟩ hl hne, World.frozen?_alloc_past _ _ _ (by rw [size_setCell]; exact l1), World.frozen?_setCell]; exact f1

theorem js_post {w w1 w2 : World} {P g g2 n cap2 : Nat} {o1 o2 o3 : Obj} {v v1 : Value} {xs : List Value} {V : List ByteArray} (hPl : P < w.heap.size) (hge : w.heap.size ≤ g) (hg1 : ((w.alloc o1).alloc o2).grownBy w1 none)
    (hg2 : ((w1.setCell ⟨P, 0, none⟩ v).alloc o3).grownBy w2 (some g)) (hown : w2.ownsRow w.heap.size 9 1 (.slice (some ⟨g2, 0, none⟩) n cap2) n xs) (hx : xs = V.map Value.string) (hn : n = V.length) (h0 : 0 < n) (c2 : w2.cell? ⟨P, 0, none⟩ = some v1) :
    JsPost w (w2.setCell ⟨P, 0, none⟩ (.slice (some ⟨g2, 0, none⟩) n cap2)) P V := by
  have hge2 := own_ge hown h0
  obtain ⟨g', cap', e1, _, hlt⟩ := hown.form h0
  cases e1
  have hs1 := hg1.size
  simp at hs1
  have hs2 := hg2.size
  simp at hs2
  refine ⟨g2, cap2, ?_, hge2, by rw [size_setCell]; exact hlt, fun i h => ?_, ?_, ?_, ?_, ?_, ?_⟩
  · rw [World.cell?_setCell_same _ _ _ c2, hn]
  · rw [World.cell?_setCell_other _ _ _ _ (by intro e; injection e with e1 e2; omega), hown.cellAt i (by omega), hx]
    simp [h]
  · exact hg2.os.trans hg1.os
  · exact hg2.tape.trans hg1.tape
  · exact hg2.output.trans hg1.output
  · rw [size_setCell]; omega
  · intro b hb hne
    have hbP : b ≠ P := fun e => hne (by rw [e])
    rw [heap_setCell_other _ _ _ _ (show b ≠ (⟨P, 0, none⟩ : Addr).block from hbP), hg2.block b (by simp; omega) (by simp; omega), Below.heap_alloc _ _ _ (by rw [size_setCell]; omega),
      heap_setCell_other _ _ _ _ (show b ≠ (⟨P, 0, none⟩ : Addr).block from hbP), hg1.block b (by simp; omega) (by simp), Below.heap_alloc _ _ _ (by simp; omega), Below.heap_alloc _ _ _ hb]


/-- What jsConsume appends. -/
def anyV (s c : ByteArray) : List ByteArray :=
  [(⟨#[36, 74, 83, 46, 65, 80, 73, 46, 67, 79, 78, 83, 85, 77, 69, 82, 46, 42, 46]⟩ : ByteArray) ++ s, (⟨#[36, 74, 83, 46, 65, 80, 73, 46, 67, 79, 78, 83, 85, 77, 69, 82, 46, 42, 46]⟩ : ByteArray) ++ s ++ (⟨#[46, 62]⟩ : ByteArray), (⟨#[36, 74, 83, 46, 65, 80, 73, 46, 67, 79, 78, 83, 85, 77, 69, 82, 46, 68, 85, 82, 65, 66, 76, 69, 46, 67, 82, 69, 65, 84, 69, 46]⟩ : ByteArray) ++ s ++ (⟨#[46, 62]⟩ : ByteArray), (⟨#[36, 74, 83, 46, 65, 80, 73, 46, 67, 79, 78, 83, 85, 77, 69, 82, 46, 77, 83, 71, 46, 78, 69, 88, 84, 46]⟩ : ByteArray) ++ s ++ (⟨#[46, 42]⟩ : ByteArray), (⟨#[36, 74, 83, 46, 65, 67, 75, 46]⟩ : ByteArray) ++ s ++ (⟨#[46, 62]⟩ : ByteArray), (⟨#[36, 74, 83, 46, 83, 78, 65, 80, 83, 72, 79, 84, 46, 82, 69, 83, 84, 79, 82, 69, 46]⟩ : ByteArray) ++ s ++ (⟨#[46, 42]⟩ : ByteArray), (⟨#[36, 74, 83, 46, 83, 78, 65, 80, 83, 72, 79, 84, 46, 65, 67, 75, 46]⟩ : ByteArray) ++ s ++ (⟨#[46, 42]⟩ : ByteArray), (⟨#[36, 74, 83, 46, 70, 67, 46]⟩ : ByteArray) ++ s ++ (⟨#[46, 62]⟩ : ByteArray), (⟨#[36, 74, 83, 46, 65, 80, 73, 46, 68, 73, 82, 69, 67, 84, 46, 71, 69, 84, 46]⟩ : ByteArray) ++ s, (⟨#[36, 74, 83, 46, 65, 80, 73, 46, 68, 73, 82, 69, 67, 84, 46, 71, 69, 84, 46]⟩ : ByteArray) ++ s ++ (⟨#[46, 62]⟩ : ByteArray)]

set_option maxHeartbeats 1000000 in
theorem js_any1 (k : Int) (s c : ByteArray) (P : Nat) (w : World) (hs : s.size ≤ 65536) (hcs : c.size ≤ 65536) (hc : c.toList.isEmpty = true) (hPl : P < w.heap.size)
   (h0 : w.cell? ⟨P, 0, none⟩ = some (.slice none 0 0)) (f0 : w.frozen? ⟨P, 0, none⟩ = false) :
    Calls Try.prog 38 #[.agg #[.int .i64 k, .string s, .string c], .pointer (some ⟨P, 0, none⟩)] w fun e w' => e = .returned (.tuple #[]) ∧ JsPost w w' P (anyV s c) := by
  obtain ⟨i0, hi, hz0, hz1, hz2⟩ := info_parts info9
  go_enter Try.func38, Try.ntmps38
  go_wp2_with (at_builtin; refine stand ?_)
  refine hide (wpList_append_lies _ rfl _ _ 22 rfl w.heap.size 9 i0 (.string ByteArray.empty) 1 16 Try.underlying22 hi hz0 hz1 hz2 rfl (by omega) (.slice none 0 0) 0 [] rfl (World.ownsRow_nil _ _ _ _) ⟨w.heap.size + 1, 0, none⟩ 5 5 _ rfl ?c0 (World.news_of_block (heap_alloc2_new _ _ _)) ?c2 (by omega) ?c3 ?c4 ?c5 _ rfl ?_)
  case c0 => rfl
  case c2 => intro u hu; simp at hu; rcases hu with h | h | h | h | h <;> subst h <;> rfl
  case c3 => unfold maxLen; omega
  case c4 => omega
  case c5 => simp; omega
  intro g cap w1 hown hgrow hat hlt
  obtain ⟨c1, f1, l1, c1', l2⟩ := js_mid hPl h0 f0 hgrow (.slice (some ⟨g, 0, none⟩) (0 + 5) cap)
  have hg := own_ge hown (by omega)
  have HO := hide hown
  have HG := hide hgrow
  clear hown hgrow hat hlt h0 f0
  go_wp2_with (at_builtin; refine stand ?_)
  refine hide (wpList_append_lies _ rfl _ _ 22 rfl w.heap.size 9 i0 (.string ByteArray.empty) 1 16 Try.underlying22 hi hz0 hz1 hz2 rfl (by omega) (.slice (some ⟨g, 0, none⟩) (0 + 5) cap) (0 + 5) _ rfl ((ownsRow_setCell_below (unhide HO) hPl _).alloc _) ⟨w1.heap.size, 0, none⟩ 5 5 _ rfl ?d0 (World.news_of_block (alloc_set_new _ _ _ _)) ?d2 (by omega) ?d3 ?d4 ?d5 _ rfl ?_)
  case d0 => rfl
  case d2 => intro u hu; simp at hu; rcases hu with h | h | h | h | h <;> subst h <;> rfl
  case d3 => unfold maxLen; omega
  case d4 => omega
  case d5 => simp [World.setCell]; omega
  intro g2 cap2 w2 hown2 hgrow2 hat2 hlt2
  obtain ⟨c2, f2, l3⟩ := js_mid2 hPl hg f1 l1 c1' hgrow2
  have post := js_post hPl hg (unhide HG) hgrow2 hown2 (V := anyV s c) rfl rfl (by omega) c2
  have PO := hide post
  clear post hown2 hgrow2 hat2 hlt2 HO HG
  go_wp2
  go_end0
  exact ⟨rfl, unhide PO⟩

set_option maxHeartbeats 1000000 in
theorem js_any2 (k : Int) (s c : ByteArray) (P : Nat) (w : World) (hs : s.size ≤ 65536) (hcs : c.size ≤ 65536) (hc : c.toList.isEmpty = false) (hc2 : (c.toList == [42]) = true) (hPl : P < w.heap.size)
   (h0 : w.cell? ⟨P, 0, none⟩ = some (.slice none 0 0)) (f0 : w.frozen? ⟨P, 0, none⟩ = false) :
    Calls Try.prog 38 #[.agg #[.int .i64 k, .string s, .string c], .pointer (some ⟨P, 0, none⟩)] w fun e w' => e = .returned (.tuple #[]) ∧ JsPost w w' P (anyV s c) := by
  obtain ⟨i0, hi, hz0, hz1, hz2⟩ := info_parts info9
  go_enter Try.func38, Try.ntmps38
  go_wp2_with (at_builtin; refine stand ?_)
  refine hide (wpList_append_lies _ rfl _ _ 22 rfl w.heap.size 9 i0 (.string ByteArray.empty) 1 16 Try.underlying22 hi hz0 hz1 hz2 rfl (by omega) (.slice none 0 0) 0 [] rfl (World.ownsRow_nil _ _ _ _) ⟨w.heap.size + 1, 0, none⟩ 5 5 _ rfl ?c0 (World.news_of_block (heap_alloc2_new _ _ _)) ?c2 (by omega) ?c3 ?c4 ?c5 _ rfl ?_)
  case c0 => rfl
  case c2 => intro u hu; simp at hu; rcases hu with h | h | h | h | h <;> subst h <;> rfl
  case c3 => unfold maxLen; omega
  case c4 => omega
  case c5 => simp; omega
  intro g cap w1 hown hgrow hat hlt
  obtain ⟨c1, f1, l1, c1', l2⟩ := js_mid hPl h0 f0 hgrow (.slice (some ⟨g, 0, none⟩) (0 + 5) cap)
  have hg := own_ge hown (by omega)
  have HO := hide hown
  have HG := hide hgrow
  clear hown hgrow hat hlt h0 f0
  go_wp2_with (at_builtin; refine stand ?_)
  refine hide (wpList_append_lies _ rfl _ _ 22 rfl w.heap.size 9 i0 (.string ByteArray.empty) 1 16 Try.underlying22 hi hz0 hz1 hz2 rfl (by omega) (.slice (some ⟨g, 0, none⟩) (0 + 5) cap) (0 + 5) _ rfl ((ownsRow_setCell_below (unhide HO) hPl _).alloc _) ⟨w1.heap.size, 0, none⟩ 5 5 _ rfl ?d0 (World.news_of_block (alloc_set_new _ _ _ _)) ?d2 (by omega) ?d3 ?d4 ?d5 _ rfl ?_)
  case d0 => rfl
  case d2 => intro u hu; simp at hu; rcases hu with h | h | h | h | h <;> subst h <;> rfl
  case d3 => unfold maxLen; omega
  case d4 => omega
  case d5 => simp [World.setCell]; omega
  intro g2 cap2 w2 hown2 hgrow2 hat2 hlt2
  obtain ⟨c2, f2, l3⟩ := js_mid2 hPl hg f1 l1 c1' hgrow2
  have post := js_post hPl hg (unhide HG) hgrow2 hown2 (V := anyV s c) rfl rfl (by omega) c2
  have PO := hide post
  clear post hown2 hgrow2 hat2 hlt2 HO HG
  go_wp2
  go_end0
  exact ⟨rfl, unhide PO⟩

/-- What jsConsume appends. -/
def oneV (s c : ByteArray) : List ByteArray :=
  [(⟨#[36, 74, 83, 46, 65, 80, 73, 46, 67, 79, 78, 83, 85, 77, 69, 82, 46, 73, 78, 70, 79, 46]⟩ : ByteArray) ++ s ++ (⟨#[46]⟩ : ByteArray) ++ c, (⟨#[36, 74, 83, 46, 65, 80, 73, 46, 67, 79, 78, 83, 85, 77, 69, 82, 46, 68, 85, 82, 65, 66, 76, 69, 46, 67, 82, 69, 65, 84, 69, 46]⟩ : ByteArray) ++ s ++ (⟨#[46]⟩ : ByteArray) ++ c, (⟨#[36, 74, 83, 46, 65, 80, 73, 46, 67, 79, 78, 83, 85, 77, 69, 82, 46, 77, 83, 71, 46, 78, 69, 88, 84, 46]⟩ : ByteArray) ++ s ++ (⟨#[46]⟩ : ByteArray) ++ c, (⟨#[36, 74, 83, 46, 65, 67, 75, 46]⟩ : ByteArray) ++ s ++ (⟨#[46]⟩ : ByteArray) ++ c ++ (⟨#[46, 62]⟩ : ByteArray), (⟨#[36, 74, 83, 46, 83, 78, 65, 80, 83, 72, 79, 84, 46, 82, 69, 83, 84, 79, 82, 69, 46]⟩ : ByteArray) ++ s ++ (⟨#[46, 42]⟩ : ByteArray), (⟨#[36, 74, 83, 46, 83, 78, 65, 80, 83, 72, 79, 84, 46, 65, 67, 75, 46]⟩ : ByteArray) ++ s ++ (⟨#[46, 42]⟩ : ByteArray), (⟨#[36, 74, 83, 46, 70, 67, 46]⟩ : ByteArray) ++ s ++ (⟨#[46, 62]⟩ : ByteArray), (⟨#[36, 74, 83, 46, 65, 80, 73, 46, 68, 73, 82, 69, 67, 84, 46, 71, 69, 84, 46]⟩ : ByteArray) ++ s, (⟨#[36, 74, 83, 46, 65, 80, 73, 46, 68, 73, 82, 69, 67, 84, 46, 71, 69, 84, 46]⟩ : ByteArray) ++ s ++ (⟨#[46, 62]⟩ : ByteArray)]

set_option maxHeartbeats 1000000 in
theorem js_named (k : Int) (s c : ByteArray) (P : Nat) (w : World) (hs : s.size ≤ 65536) (hcs : c.size ≤ 65536) (hc : c.toList.isEmpty = false) (hc2 : (c.toList == [42]) = false) (hPl : P < w.heap.size)
   (h0 : w.cell? ⟨P, 0, none⟩ = some (.slice none 0 0)) (f0 : w.frozen? ⟨P, 0, none⟩ = false) :
    Calls Try.prog 38 #[.agg #[.int .i64 k, .string s, .string c], .pointer (some ⟨P, 0, none⟩)] w fun e w' => e = .returned (.tuple #[]) ∧ JsPost w w' P (oneV s c) := by
  obtain ⟨i0, hi, hz0, hz1, hz2⟩ := info_parts info9
  go_enter Try.func38, Try.ntmps38
  go_wp2_with (at_builtin; refine stand ?_)
  refine hide (wpList_append_lies _ rfl _ _ 22 rfl w.heap.size 9 i0 (.string ByteArray.empty) 1 16 Try.underlying22 hi hz0 hz1 hz2 rfl (by omega) (.slice none 0 0) 0 [] rfl (World.ownsRow_nil _ _ _ _) ⟨w.heap.size + 1, 0, none⟩ 4 4 _ rfl ?c0 (World.news_of_block (heap_alloc2_new _ _ _)) ?c2 (by omega) ?c3 ?c4 ?c5 _ rfl ?_)
  case c0 => rfl
  case c2 => intro u hu; simp at hu; rcases hu with h | h | h | h <;> subst h <;> rfl
  case c3 => unfold maxLen; omega
  case c4 => omega
  case c5 => simp; omega
  intro g cap w1 hown hgrow hat hlt
  obtain ⟨c1, f1, l1, c1', l2⟩ := js_mid hPl h0 f0 hgrow (.slice (some ⟨g, 0, none⟩) (0 + 4) cap)
  have hg := own_ge hown (by omega)
  have HO := hide hown
  have HG := hide hgrow
  clear hown hgrow hat hlt h0 f0
  go_wp2_with (at_builtin; refine stand ?_)
  refine hide (wpList_append_lies _ rfl _ _ 22 rfl w.heap.size 9 i0 (.string ByteArray.empty) 1 16 Try.underlying22 hi hz0 hz1 hz2 rfl (by omega) (.slice (some ⟨g, 0, none⟩) (0 + 4) cap) (0 + 4) _ rfl ((ownsRow_setCell_below (unhide HO) hPl _).alloc _) ⟨w1.heap.size, 0, none⟩ 5 5 _ rfl ?d0 (World.news_of_block (alloc_set_new _ _ _ _)) ?d2 (by omega) ?d3 ?d4 ?d5 _ rfl ?_)
  case d0 => rfl
  case d2 => intro u hu; simp at hu; rcases hu with h | h | h | h | h <;> subst h <;> rfl
  case d3 => unfold maxLen; omega
  case d4 => omega
  case d5 => simp [World.setCell]; omega
  intro g2 cap2 w2 hown2 hgrow2 hat2 hlt2
  obtain ⟨c2, f2, l3⟩ := js_mid2 hPl hg f1 l1 c1' hgrow2
  have post := js_post hPl hg (unhide HG) hgrow2 hown2 (V := oneV s c) rfl rfl (by omega) c2
  have PO := hide post
  clear post hown2 hgrow2 hat2 hlt2 HO HG
  go_wp2
  go_end0
  exact ⟨rfl, unhide PO⟩

end Go.Proofs.Qxb6602990a.Leaf
