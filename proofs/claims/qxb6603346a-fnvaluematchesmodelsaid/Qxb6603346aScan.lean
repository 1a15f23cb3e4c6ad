import Derived.Test.Qxb6603346aLeaf
import Derived.Lib.Builder
import Derived.Deep.AppendLies
namespace Go.Proofs.Qxb6603346a.Leaf
open Go Go.RowKit Plain
set_option linter.unusedVariables false

/-- The scanner in block P: over s, at place k. -/
def Sc (w : World) (P : Nat) (s : ByteArray) (k : Nat) : Prop :=
  w.cell? ⟨P, 0, none⟩ = some (.string s) ∧ w.cell? ⟨P, 1, none⟩ = some (.int .i64 (k : Int)) ∧ w.frozen? ⟨P, 1, none⟩ = false ∧ P < w.heap.size

theorem Sc.draw {w : World} {P : Nat} {s : ByteArray} {k : Nat} (h : Sc w P s k) (n : Nat) : Sc (w.drewN n) P s k := h
theorem Sc.put {w : World} {P : Nat} {s : ByteArray} {k : Nat} (h : Sc w P s k) (j : Nat) : Sc (w.setCell ⟨P, 1, none⟩ (.int .i64 (j : Int))) P s j := by
  obtain ⟨h1, h2, h3, h4⟩ := h
  refine ⟨?_, World.cell?_setCell_same _ _ _ h2, by rw [World.frozen?_setCell]; exact h3, by simpa [World.setCell] using h4⟩
  rw [World.cell?_setCell_other _ _ _ _ (by intro e; injection e with e1 e2; cases e2)]; exact h1

set_option maxHeartbeats 400000 in
theorem done_is {s : ByteArray} {k P : Nat} {w : World} {b : Bool} (h : Sc w P s k) (hs : s.size ≤ 1048576) (hk : k ≤ 1048576) (hb : decide (s.size ≤ k) = b) :
    Calls Try.prog 14 #[.pointer (some ⟨P, 0, none⟩)] w fun e w' => e = .returned (.bool b) ∧ ∃ n, w' = w.drewN n := by
  obtain ⟨h1, h2, h3, h4⟩ := h
  go_enter Try.func14, Try.ntmps14
  go_wp2
  go_quiet (fail)
  go_wp2
  go_ret
  exact ⟨rfl, _, rfl⟩

theorem byte_ne {s : ByteArray} {k : Nat} {c : UInt8} (h : k < s.size) (hb : bAt s k ≠ c) : (((s[k].toNat : Nat) : Int) != (c.toNat : Int)) = true := by
  rw [bAt_lt h] at hb
  simp only [bne_iff_ne, ne_eq]
  intro e; exact hb (UInt8.toNat_inj.1 (by omega))
theorem byte_eq {s : ByteArray} {k : Nat} {c : UInt8} (h : k < s.size) (hb : bAt s k = c) : ((s[k].toNat : Nat) : Int) = (c.toNat : Int) := by
  rw [bAt_lt h] at hb; rw [hb]

set_option maxHeartbeats 400000 in
theorem consume_no {s : ByteArray} {k P : Nat} {w : World} (h : Sc w P s k) (hs : s.size ≤ 1048576) (hk : k ≤ s.size) (hb : k = s.size ∨ bAt s k ≠ 34) :
    Calls Try.prog 12 #[.pointer (some ⟨P, 0, none⟩), .int .u8 34] w fun e w' => e = .returned (.bool false) ∧ ∃ n, w' = w.drewN n := by
  have hd := fun (b : Bool) (hb : decide (s.size ≤ k) = b) (n : Nat) => done_is (w := w.drewN n) h hs (by omega) hb
  obtain ⟨h1, h2, h3, h4⟩ := h
  by_cases hlt : k < s.size
  · have hne' : (((s[k].toNat : Nat) : Int) != 34) = true := byte_ne (c := 34) hlt (hb.resolve_left (by omega))
    have HD := hide (hd false (by simp; omega))
    clear hd hb
    go_enter Try.func12, Try.ntmps12
    go_wp2
    go_quiet ((go_at_call 14; exact quiet_draw (unhide HD _) (fun n => ⟨_, by rw [World.drewN_drewN]⟩)))
    go_wp2
    go_ret
    exact ⟨rfl, _, rfl⟩
  · have HD := hide (hd true (by simp; omega))
    clear hd hb
    go_enter Try.func12, Try.ntmps12
    go_wp2
    go_quiet ((go_at_call 14; exact quiet_draw (unhide HD _) (fun n => ⟨_, by rw [World.drewN_drewN]⟩)))
    go_wp2
    go_ret
    exact ⟨rfl, _, rfl⟩

set_option maxHeartbeats 400000 in
theorem consume_yes {s : ByteArray} {k P : Nat} {w : World} (h : Sc w P s k) (hs : s.size ≤ 1048576) (hlt : k < s.size) (hb : bAt s k = 34) :
    Calls Try.prog 12 #[.pointer (some ⟨P, 0, none⟩), .int .u8 34] w fun e w' => e = .returned (.bool true) ∧ ∃ n, w' = (w.setCell ⟨P, 1, none⟩ (.int .i64 ((k + 1 : Nat) : Int))).drewN n := by
  have hd := fun (b : Bool) (hb : decide (s.size ≤ k) = b) (n : Nat) => done_is (w := w.drewN n) h hs (by omega) hb
  obtain ⟨h1, h2, h3, h4⟩ := h
  have hne' : (((s[k].toNat : Nat) : Int) != 34) = false := by have := byte_eq (c := 34) hlt hb; simp [this]
  have HD := hide (hd false (by simp; omega))
  clear hd hb
  go_enter Try.func12, Try.ntmps12
  go_wp2
  go_quiet ((go_at_call 14; exact quiet_draw (unhide HD _) (fun n => ⟨_, by rw [World.drewN_drewN]⟩)))
  go_wp2
  go_ret
  exact ⟨rfl, nq, rfl⟩

/-! ### The Builder -/
theorem info5 : (Try.prog.info? 5).map (fun i => (i.zero, i.size, i.bytes)) = some (some (.int .u8 0), 1, 1) := by kernel_rfl
theorem size35 : (Try.prog.info? 35).map (·.size) = some 2 := by kernel_rfl
theorem lies35 : liesAt Try.prog Try.prog.depth 35 (2 / Try.prog.cellsOf 35) 0 35 1 = true := by kernel_rfl

set_option maxHeartbeats 400000 in
theorem copy_used (b : Nat) (w : World) (h0 : w.cell? ⟨b, 0, none⟩ = some (.pointer (some ⟨b, 0, none⟩))) :
    Calls Try.prog 18 #[.pointer (some ⟨b, 0, none⟩)] w fun e w' => e = .returned (.tuple #[]) ∧ w' = w := by
  obtain ⟨j, hj, _⟩ := Option.map_eq_some_iff.1 size35
  have hn := fun (w : World) => Lib.run_neq_ptr_same (P := Try.prog) w (⟨b, 0, none⟩ : Addr) Try.underlying33 hj
  go_enter Try.func18, Try.ntmps18
  go_wp2
  go_end0
  exact ⟨rfl, rfl⟩

set_option maxHeartbeats 400000 in
set_option maxRecDepth 100000 in
theorem copy_fresh (b : Nat) (w : World) (h0 : w.cell? ⟨b, 0, none⟩ = some (.pointer none)) (hsh : w.shape? b = some (35, 2)) (hfz : w.frozen? ⟨b, 0, none⟩ = false) :
    Calls Try.prog 18 #[.pointer (some ⟨b, 0, none⟩)] w fun e w' => e = .returned (.tuple #[]) ∧ w' = w.setCell ⟨b, 0, none⟩ (.pointer (some ⟨b, 0, none⟩)) := by
  obtain ⟨j, hj, hjs⟩ := Option.map_eq_some_iff.1 size35
  go_enter Try.func18, Try.ntmps18
  go_wp2
  rw [Lib.run_to_unsafe w ⟨b, 0, none⟩ Try.underlying33 Try.underlying42 hj (by rw [hjs]; decide) hsh (Nat.zero_lt_succ 1)]
  simp only [Result.andThen]
  rw [Oper.upon_value]
  go_wp2
  rw [run_callFunc_extern Try.func20 (by kernel_rfl) (by kernel_rfl) (by kernel_rfl) (e := Extern.AbiNoEscape.same) (by kernel_rfl)]
  rw [Lib.run_noEscape]
  simp only [Result.andThen]
  rw [Oper.upon_value]
  go_wp2
  rw [Lib.run_from_unsafe w ⟨b, 0, none⟩ Try.underlying42 Try.underlying33 hj hsh lies35]
  simp only [Result.andThen]
  rw [Oper.upon_value]
  go_wp2
  go_end0
  exact ⟨rfl, rfl⟩

theorem copy_all (B b : Nat) (bs : List Value) (w : World) (h : Lib.IsBuilder 35 5 B b bs w) :
    Calls Try.prog 18 #[.pointer (some ⟨b, 0, none⟩)] w fun e w' => e = .returned (.tuple #[]) ∧ (Lib.BuilderAt 35 5 B b (.pointer (some ⟨b, 0, none⟩)) bs w' ∧ Below B w w') := by
  rcases h with h | h
  · refine (copy_fresh b w h.cell0 h.shape h.frozen0).mono ?_
    rintro e w' ⟨rfl, rfl⟩
    exact ⟨rfl, h.used _, (Below.refl B w).setCell (p := ⟨b, 0, none⟩) h.1 _⟩
  · refine (copy_used b w h.cell0).mono ?_
    rintro e w' ⟨rfl, rfl⟩
    exact ⟨rfl, h, Below.refl B _⟩

set_option maxHeartbeats 1000000 in
theorem write_all (B b : Nat) (bs : List Value) (c : Int) (w : World) (h : Lib.IsBuilder 35 5 B b bs w) (hlen : bs.length ≤ 1048576) (hBw : B ≤ w.heap.size) :
    Calls Try.prog 15 #[.pointer (some ⟨b, 0, none⟩), .int .u8 c] w fun e w' => e = .returned .nilIface ∧ (Lib.IsBuilder 35 5 B b (bs ++ [.int .u8 c]) w' ∧ Below B w w') := by
  obtain ⟨i0, hi, hz0, hz1, hz2⟩ := info_parts info5
  have K := hide (copy_all B b bs w h)
  clear h
  go_enter Try.func15, Try.ntmps15
  go_wp2_with (fail)
  refine (unhide K).mono ?_
  rintro e w1 ⟨rfl, h1, hb1⟩
  obtain ⟨hB, v, hbk, hown, hne⟩ := h1
  have c1 : w1.cell? ⟨b, 1, none⟩ = some v := by rw [Lib.cell_of_heap hbk]; rfl
  have hlt : b < w1.heap.size := (Array.getElem?_eq_some_iff.1 hbk).1
  have H1 := hide (And.intro hbk (And.intro hown (And.intro hne hb1)))
  clear hbk hown hne hb1 K
  go_wp2_with (at_builtin; refine stand ?_)
  refine hide (wpList_append_lies _ rfl _ _ 27 rfl B 5 i0 (.int .u8 0) 1 1 Try.underlying27 hi hz0 hz1 hz2 rfl (by omega) v bs.length bs rfl ((unhide H1).2.1.alloc _) ⟨w1.heap.size, 0, none⟩ 1 1 _ rfl ?c0 (World.news_of_block (heap_alloc_new _ _)) ?c2 (by omega) ?c3 ?c4 ?c5 _ rfl ?_)
  case c0 => rfl
  case c2 => intro u hu; simp at hu; subst hu; rfl
  case c3 => unfold maxLen; omega
  case c4 => omega
  case c5 => have := (unhide H1).2.2.2.size; simp; omega
  intro g cap w2 hown' hgrow hat hlt2
  obtain ⟨hbk, hown, hne, hb1⟩ := unhide H1
  have hb2 : w2.heap[b]? = some (.cells #[.pointer (some ⟨b, 0, none⟩), v] 35 (0, 0)) := by
    rw [hgrow.block b (by simp; omega) (fun e => hne e.symm), Lib.alloc_old w1 _ b hlt]
    exact hbk
  have d1 : w2.cell? ⟨b, 1, none⟩ = some v := by rw [Lib.cell_of_heap hb2]; rfl
  have f1 : w2.frozen? ⟨b, 1, none⟩ = false := Lib.frozen_of_heap hb2 1
  have fin : Lib.IsBuilder 35 5 B b (bs ++ [.int .u8 c]) (w2.setCell ⟨b, 1, none⟩ (.slice (some ⟨g, 0, none⟩) (bs.length + 1) cap)) ∧ Below B w (w2.setCell ⟨b, 1, none⟩ (.slice (some ⟨g, 0, none⟩) (bs.length + 1) cap)) := by
    refine ⟨Or.inr (Lib.BuilderAt.put (T := 35) (e := 5) hB hb2 (bs' := bs ++ [.int .u8 c]) (by simpa using hown') (by decide)), ?_⟩
    refine Below.setCell ?_ (show B ≤ (⟨b, 1, none⟩ : Addr).block from hB) _
    refine (hb1.alloc (Nat.le_trans hBw hb1.size) _).grown hgrow (by have := hb1.size; simp; omega) ?_
    intro k hk
    rcases hown.2 with ⟨hv, _⟩ | ⟨g', cap', cur, hv, hg', _⟩
    · rw [hv] at hk; cases hk
    · rw [hv] at hk
      have : g' = k := by simpa [Value.ownBlock] using hk
      omega
  have FIN := hide fin
  clear fin hbk hown hne hb1 hb2 hown' hgrow hat hlt2 H1
  go_wp2
  go_ret
  exact ⟨rfl, unhide FIN⟩
end Go.Proofs.Qxb6603346a.Leaf
