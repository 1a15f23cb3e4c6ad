import Derived.Test.Qxb6603346aValue
import Derived.Test.Qxb6603346aShelf
import Derived.Deep.RegionHeld3
namespace Go.Proofs.Qxb6603346a.Leaf
open Go Go.RowKit Plain
set_option linter.unusedVariables false

theorem below_drewN {B : Nat} {a w : World} (h : Below B a w) (n : Nat) : Below B a (w.drewN n) := ⟨h.os, h.tape, h.output, h.size, h.block⟩

set_option maxHeartbeats 400000 in
theorem value_t {s : ByteArray} {k P : Nat} {w : World} (h : Sc w P s k) (hs : s.size ≤ 1048576) (hk : k ≤ s.size) (hb : k = s.size ∨ bAt s k ≠ 34) :
    Calls Try.prog 11 #[.pointer (some ⟨P, 0, none⟩)] w fun e w' => e = .returned (.string (s.extract k (run s k))) ∧ (w'.cell? ⟨P, 1, none⟩ = some (.int .i64 ((run s k : Nat) : Int)) ∧ Below P w w') := by
  have K1 := hide (consume_no h hs hk hb)
  have K2 := hide (fun n => token_all (h.draw n) hs hk)
  have F : Hid (∀ n m, (((w.drewN n).setCell ⟨P, 1, none⟩ (.int .i64 ((run s k : Nat) : Int))).drewN m).cell? ⟨P, 1, none⟩ = some (.int .i64 ((run s k : Nat) : Int)) ∧ Below P w (((w.drewN n).setCell ⟨P, 1, none⟩ (.int .i64 ((run s k : Nat) : Int))).drewN m)) := fun n m =>
    ⟨World.cell?_setCell_same (w.drewN n) _ _ h.2.1, below_drewN (Below.setCell (below_drewN (Below.refl P w) n) (show P ≤ (⟨P, 1, none⟩ : Addr).block from Nat.le_refl _) _) m⟩
  clear h hb
  obtain ⟨R, hR⟩ : ∃ R, R = s.extract k (run s k) := ⟨_, rfl⟩
  obtain ⟨q, hq⟩ : ∃ q, q = run s k := ⟨_, rfl⟩
  rw [← hq] at hR F K2
  rw [← hq]
  rw [← hR] at K2
  rw [← hR]
  clear hR hq
  go_enter Try.func11, Try.ntmps11
  go_wp2_with (fail)
  refine (unhide K1).mono ?_
  rintro e w1 ⟨rfl, n, rfl⟩
  go_wp2_with (fail)
  refine (unhide K2 n).mono ?_
  rintro e w1 ⟨rfl, m, rfl⟩
  go_wp2_with (fail)
  go_ret
  exact ⟨rfl, unhide F n m⟩

theorem write_sc {s : ByteArray} {P j b : Nat} (out : List UInt8) (c : Int) (W : World) (hP : P < b) (h : Sc W P s j) (hIB : Lib.IsBuilder 35 5 b b (Lib.byteCells out) W) (hlen : out.length ≤ 1048576) (hbs : b ≤ W.heap.size) :
    Calls Try.prog 15 #[.pointer (some ⟨b, 0, none⟩), .int .u8 c] W fun e w' => e = .returned .nilIface ∧ (Hid (Lib.IsBuilder 35 5 b b (Lib.byteCells out ++ [.int .u8 c]) w' ∧ Below b W w') ∧
      w'.cell? ⟨P, 0, none⟩ = some (.string s) ∧ w'.cell? ⟨P, 1, none⟩ = some (.int .i64 (j : Int)) ∧ w'.frozen? ⟨P, 1, none⟩ = false ∧ P < w'.heap.size) :=
  (write_all b b _ c W hIB (by rw [Lib.byteCells_length]; exact hlen) hbs).mono fun e w' ⟨he, h1, h2⟩ =>
    ⟨he, ⟨h1, h2⟩, (h2.cell (p := ⟨P, 0, none⟩) hP).trans h.1, (h2.cell (p := ⟨P, 1, none⟩) hP).trans h.2.1, (h2.frozen (p := ⟨P, 1, none⟩) hP).trans h.2.2.1, Nat.lt_of_lt_of_le h.2.2.2 h2.size⟩

/-- The memory of a round of 'value', hidden from the walk. -/
def Mem (s : ByteArray) (P b k0 : Nat) (w wr : World) (j : Nat) : Prop :=
  ∃ out : List UInt8, Lib.IsBuilder 35 5 b b (Lib.byteCells out) wr ∧ b ≤ wr.heap.size ∧ Below P w wr ∧ out.length ≤ j ∧ val s k0 = (out ++ (val s j).1, (val s j).2)

theorem isB_set {b P : Nat} {bs : List Value} {w : World} (h : Lib.IsBuilder 35 5 b b bs w) (hP : P < b) (i : Nat) (v : Value) : Lib.IsBuilder 35 5 b b bs (w.setCell ⟨P, i, none⟩ v) := by
  have key : ∀ p, Lib.BuilderAt 35 5 b b p bs w → Lib.BuilderAt 35 5 b b p bs (w.setCell ⟨P, i, none⟩ v) := by
    rintro p ⟨hB, u, hbk, hown, hne⟩
    exact ⟨hB, u, by rw [Below.heap_setCell _ _ _ _ (show b ≠ (⟨P, i, none⟩ : Addr).block from by simp; omega)]; exact hbk, ownsRow_setCell_below hown hP v, hne⟩
  rcases h with h | h
  · exact Or.inl (key _ h)
  · exact Or.inr (key _ h)

/-- A round that writes the byte at place i and goes on at place j'. -/
theorem mem_step {s : ByteArray} {P b k0 j i j' : Nat} {w W w2 : World} {out : List UInt8} {c : Int} {y : Value} (hP : P < b) (hW : Below P w W) (hbs : b ≤ W.heap.size)
    (HW : Lib.IsBuilder 35 5 b b (Lib.byteCells out ++ [.int .u8 c]) w2 ∧ Below b W w2) (hc : c = ((bAt s i).toNat : Int)) (hol : out.length ≤ j) (hj : j < j')
    (hval : val s k0 = (out ++ (val s j).1, (val s j).2)) (hv : val s j = (bAt s i :: (val s j').1, (val s j').2)) : Mem s P b k0 w (w2.setCell ⟨P, 1, none⟩ y) j' := by
  refine ⟨out ++ [bAt s i], isB_set ?_ hP 1 y, by have := HW.2.size; simp [World.setCell]; omega, ?_, by simp; omega, ?_⟩
  · rw [Lib.byteCells_append]
    rw [hc] at HW
    exact HW.1
  · exact (hW.trans (HW.2.mono (by omega))).setCell (show P ≤ (⟨P, 1, none⟩ : Addr).block from Nat.le_refl _) _
  · rw [hval, hv]; simp

theorem sc_step {s : ByteArray} {P j : Nat} {w2 : World} (d1 : w2.cell? ⟨P, 0, none⟩ = some (.string s)) (d2 : w2.cell? ⟨P, 1, none⟩ = some (.int .i64 (j : Int))) (d3 : w2.frozen? ⟨P, 1, none⟩ = false) (d4 : P < w2.heap.size) :
    Sc (w2.setCell ⟨P, 1, none⟩ (.int .i64 ((j : Int) + 1))) P s (j + 1) := by
  have := Sc.put (⟨d1, d2, d3, d4⟩ : Sc w2 P s j) (j + 1)
  exact this

theorem sc_to {s : ByteArray} {P j' : Nat} {w2 : World} {u : Value} {y : Int} (d1 : w2.cell? ⟨P, 0, none⟩ = some (.string s)) (d2 : w2.cell? ⟨P, 1, none⟩ = some u) (d3 : w2.frozen? ⟨P, 1, none⟩ = false) (d4 : P < w2.heap.size) (hy : y = (j' : Int)) :
    Sc (w2.setCell ⟨P, 1, none⟩ (.int .i64 y)) P s j' := by
  subst hy
  refine ⟨?_, World.cell?_setCell_same _ _ _ d2, by rw [World.frozen?_setCell]; exact d3, by simpa [World.setCell] using d4⟩
  rw [World.cell?_setCell_other _ _ _ _ (by intro e; injection e with e1 e2; cases e2)]; exact d1

theorem string_all {s : ByteArray} {P k b j : Nat} {out : List UInt8} {w W : World} (hP : P < b) (h1 : W.cell? ⟨P, 1, none⟩ = some (.int .i64 (j : Int))) (hIB : Lib.IsBuilder 35 5 b b (Lib.byteCells out) W) (hbs : b ≤ W.heap.size) (hBel : Below P w W)
    (hv : val s (k + 1) = (out, j)) :
    Calls Try.prog 16 #[.pointer (some ⟨b, 0, none⟩)] W fun e w' => e = .returned (.string ⟨(val s (k + 1)).1.toArray⟩) ∧ (w'.cell? ⟨P, 1, none⟩ = some (.int .i64 (((val s (k + 1)).2 : Nat) : Int)) ∧ Below P w w') := by
  rw [hv]
  exact (Try.Builder_String_any b b out W hIB hbs).mono fun e w' ⟨he, h2⟩ => ⟨he, (h2.cell (p := ⟨P, 1, none⟩) hP).trans h1, hBel.trans (h2.mono (by omega))⟩

set_option maxHeartbeats 1000000 in
theorem value_q {s : ByteArray} {k P : Nat} {w : World} (h : Sc w P s k) (hs : s.size ≤ 1048576) (hk : k < s.size) (hb : bAt s k = 34) :
    Calls Try.prog 11 #[.pointer (some ⟨P, 0, none⟩)] w fun e w' => e = .returned (.string ⟨(val s (k + 1)).1.toArray⟩) ∧ (w'.cell? ⟨P, 1, none⟩ = some (.int .i64 (((val s (k + 1)).2 : Nat) : Int)) ∧ Below P w w') := by
  have K1 := hide (consume_yes h hs hk hb)
  have HS := hide h
  clear h hb
  go_enter Try.func11, Try.ntmps11
  go_wp2_with (fail)
  refine (unhide K1).mono ?_
  rintro e w1 ⟨rfl, n, hw1⟩
  have s1 : Sc w1 P s (k + 1) := by rw [hw1]; exact ((unhide HS).put (k + 1)).draw n
  have b1 : Below P w w1 := by rw [hw1]; exact below_drewN ((Below.refl P w).setCell (show P ≤ (⟨P, 1, none⟩ : Addr).block from Nat.le_refl _) _) n
  have S1 := hide s1
  have B1 := hide b1
  clear s1 b1 hw1 K1
  go_wp2_with (fail)
  obtain ⟨b, hbb⟩ : ∃ b, b = w1.heap.size := ⟨_, rfl⟩
  have hPb : P < b := by rw [hbb]; exact (unhide S1).2.2.2
  have START : Hid (Sc (w1.alloc (.cells #[.pointer none, .slice none 0 0] 35)) P s (k + 1) ∧ Mem s P b (k + 1) w (w1.alloc (.cells #[.pointer none, .slice none 0 0] 35)) (k + 1)) := by
    obtain ⟨h1, h2, h3, h4⟩ := unhide S1
    refine ⟨⟨?_, ?_, ?_, ?_⟩, [], ?_, ?_, ?_, Nat.zero_le _, ?_⟩
    · rw [World.cell?_alloc_past _ _ _ h4]; exact h1
    · rw [World.cell?_alloc_past _ _ _ h4]; exact h2
    · rw [World.frozen?_alloc_past _ _ _ h4]; exact h3
    · simp; omega
    · rw [hbb]; exact Lib.fresh_isBuilder 35 5 w1
    · rw [hbb]; simp
    · exact (unhide B1).alloc (by omega) _
    · rfl
  rw [← hbb]
  clear hbb
  go_loopg [9] (s.size - (k + 1)) (fun g _ wr => ∃ j, g = s.size - j ∧ j ≤ s.size ∧ Hid (Sc wr P s j) ∧ Hid (Mem s P b (k + 1) w wr j))
  case atStart => exact ⟨k + 1, rfl, by omega, (unhide START).1, (unhide START).2⟩
  case round =>
    obtain ⟨j, rfl, hj, HSC, HM⟩ := hrel
    obtain ⟨c1, c2, c3, c4⟩ := unhide HSC
    have hd := fun (bo : Bool) (hb : decide (s.size ≤ j) = bo) (m : Nat) => done_is (w := wr.drewN m) (unhide HSC) hs (by omega) hb
    by_cases hex : j < s.size ∧ bAt s j ≠ 34
    · obtain ⟨hlt, hq⟩ := hex
      have hne' : (((s[j].toNat : Nat) : Int) != 34) = true := byte_ne (c := 34) hlt hq
      have HD := hide (hd false (by simp; omega))
      clear hd
      cases hes : esc s j with
      | true =>
        have hl1 := esc_lt hes
        have h92' : (((s[j].toNat : Nat) : Int) == 92) = true := by
          have h92 : bAt s j = 92 := by unfold esc at hes; simp at hes; exact hes.1
          have := byte_eq (c := 92) hlt h92
          rw [this]; rfl
        have hend' : decide ((j : Int) + 1 < (s.size : Int)) = true := by simp; omega
        obtain ⟨out, hIB, hbs, hBel, hol, hval⟩ := unhide HM
        have HIB := hide (isB_set hIB hPb 1 (.int .i64 ((j : Int) + 1)))
        have HSC2 : Hid (Sc (wr.setCell ⟨P, 1, none⟩ (.int .i64 ((j : Int) + 1))) P s (j + 1)) := Sc.put (unhide HSC) (j + 1)
        have e0 : ∀ m, ((wr.drewN m).setCell ⟨P, 1, none⟩ (.int .i64 ((j : Int) + 1))).cell? ⟨P, 0, none⟩ = some (.string s) := fun m => (unhide HSC2).1
        have e1 : ∀ m, ((wr.drewN m).setCell ⟨P, 1, none⟩ (.int .i64 ((j : Int) + 1))).cell? ⟨P, 1, none⟩ = some (.int .i64 ((j : Int) + 1)) := fun m => (unhide HSC2).2.1
        clear hIB
        go_wp2
        go_quiet (first | (go_at_call 14; exact quiet_draw (unhide HD _) (fun n => ⟨_, by rw [World.drewN_drewN]⟩)))
        go_wp2
        go_quiet (fail)
        go_wp2
        go_region_held3 (fun w' => w'.cell? ⟨P, 0, none⟩ = some (.string s) ∧ w'.cell? ⟨P, 1, none⟩ = some (.int .i64 ((j : Int) + 1))) (go_keep) ((go_at_call 15; refine (write_sc (s := s) (P := P) (j := j + 1) (b := b) out _ _ hPb (by exact unhide HSC2) (by exact unhide HIB) (by omega) (by simp; exact hbs)).mono ?_; rintro e w2 ⟨rfl, HW, d1, d2, d3, d4⟩))
        all_goals go_wp2
        go_roundg (s.size - (j + 2))
        case measure => omega
        case rel =>
          refine ⟨j + 2, rfl, by omega, sc_to d1 d2 d3 d4 (by omega), mem_step (i := j + 1) (j := j) hPb ?_ ?_ (unhide HW) (at_byte hl1).symm hol (by omega) hval (val_esc hlt hq hes)⟩
          · exact (Below.setCell (below_drewN hBel _) (show P ≤ (⟨P, 1, none⟩ : Addr).block from Nat.le_refl _) _).drew
          · simp; exact hbs
      | false =>
        by_cases h92 : bAt s j = 92
        · have h92' : (((s[j].toNat : Nat) : Int) == 92) = true := by
            have := byte_eq (c := 92) hlt h92
            rw [this]; rfl
          have hend : s.size ≤ j + 1 := by
            unfold esc at hes
            simp [h92] at hes
            omega
          have hend' : decide ((j : Int) + 1 < (s.size : Int)) = false := by simp; omega
          obtain ⟨out, hIB, hbs, hBel, hol, hval⟩ := unhide HM
          have HIB := hide hIB
          clear hIB h92
          go_wp2
          go_quiet (first | (go_at_call 14; exact quiet_draw (unhide HD _) (fun n => ⟨_, by rw [World.drewN_drewN]⟩)))
          go_wp2
          go_quiet (fail)
          go_wp2
          go_region_held3 (fun w' => w'.cell? ⟨P, 0, none⟩ = some (.string s) ∧ w'.cell? ⟨P, 1, none⟩ = some (.int .i64 (j : Int))) (go_keep) ((go_at_call 15; refine (write_sc (s := s) (P := P) (j := j) (b := b) out _ _ hPb (by exact unhide HSC) (by exact unhide HIB) (by omega) (by exact hbs)).mono ?_; rintro e w2 ⟨rfl, HW, d1, d2, d3, d4⟩))
          all_goals go_wp2
          go_roundg (s.size - (j + 1))
          case measure => omega
          case rel =>
            refine ⟨j + 1, rfl, by omega, sc_step d1 d2 d3 d4, mem_step hPb ?_ ?_ (unhide HW) (at_byte hlt).symm hol (by omega) hval (val_plain hlt hq hes)⟩
            · exact ⟨hBel.os, hBel.tape, hBel.output, hBel.size, hBel.block⟩
            · exact hbs
        · have h92' : (((s[j].toNat : Nat) : Int) == 92) = false := by
            have := byte_ne (c := 92) hlt h92
            simpa using this
          obtain ⟨out, hIB, hbs, hBel, hol, hval⟩ := unhide HM
          have HIB := hide hIB
          clear hIB h92
          go_wp2
          go_quiet (first | (go_at_call 14; exact quiet_draw (unhide HD _) (fun n => ⟨_, by rw [World.drewN_drewN]⟩)))
          go_wp2
          go_quiet (fail)
          go_wp2
          go_region_held3 (fun w' => w'.cell? ⟨P, 0, none⟩ = some (.string s) ∧ w'.cell? ⟨P, 1, none⟩ = some (.int .i64 (j : Int))) (go_keep) ((go_at_call 15; refine (write_sc (s := s) (P := P) (j := j) (b := b) out _ _ hPb (by exact unhide HSC) (by exact unhide HIB) (by omega) (by exact hbs)).mono ?_; rintro e w2 ⟨rfl, HW, d1, d2, d3, d4⟩))
          all_goals go_wp2
          go_roundg (s.size - (j + 1))
          case measure => omega
          case rel =>
            refine ⟨j + 1, rfl, by omega, sc_step d1 d2 d3 d4, mem_step hPb ?_ ?_ (unhide HW) (at_byte hlt).symm hol (by omega) hval (val_plain hlt hq hes)⟩
            · exact ⟨hBel.os, hBel.tape, hBel.output, hBel.size, hBel.block⟩
            · exact hbs
    · obtain ⟨out, hIB, hbs, hBel, hol, hval⟩ := unhide HM
      by_cases hlt : j < s.size
      · have hq : bAt s j = 34 := Decidable.byContradiction fun h => hex ⟨hlt, h⟩
        have hne' : (((s[j].toNat : Nat) : Int) != 34) = false := by have := byte_eq (c := 34) hlt hq; simp [this]
        have HD := hide (hd false (by simp; omega))
        have KC := hide (fun n => consume_yes ((unhide HSC).draw n) hs hlt hq)
        rw [val_quote hlt hq, List.append_nil] at hval
        have KS : Hid (∀ n m, Calls Try.prog 16 #[.pointer (some ⟨b, 0, none⟩)] (((wr.drewN n).setCell ⟨P, 1, none⟩ (.int .i64 ((j + 1 : Nat) : Int))).drewN m) fun e w' => e = .returned (.string ⟨(val s (k + 1)).1.toArray⟩) ∧ (w'.cell? ⟨P, 1, none⟩ = some (.int .i64 (((val s (k + 1)).2 : Nat) : Int)) ∧ Below P w w')) := fun n m =>
          string_all (W := (((wr.drewN n).setCell ⟨P, 1, none⟩ (.int .i64 ((j + 1 : Nat) : Int))).drewN m)) hPb (Sc.put (unhide HSC) (j + 1)).2.1 (isB_set hIB hPb 1 _) (by simp; exact hbs)
            (below_drewN (Below.setCell (below_drewN hBel n) (show P ≤ (⟨P, 1, none⟩ : Addr).block from Nat.le_refl _) _) m) hval
        clear hd hex hq hIB hval
        go_wp2
        go_quiet (first | (go_at_call 14; exact quiet_draw (unhide HD _) (fun n => ⟨_, by rw [World.drewN_drewN]⟩)))
        go_wp2_with (fail)
        refine (unhide KC _).mono ?_
        rintro e w2 ⟨rfl, m, rfl⟩
        go_wp2_with (fail)
        refine (unhide KS _ _).mono ?_
        rintro e w3 ⟨rfl, h1, h2⟩
        have FIN := hide (And.intro h1 h2)
        clear h1 h2
        go_wp2_with (fail)
        go_ret
        exact ⟨rfl, unhide FIN⟩
      · have HD := hide (hd true (by simp; omega))
        have KC := hide (fun n => consume_no ((unhide HSC).draw n) hs hj (Or.inl (by omega)))
        rw [val_past s j (by omega), List.append_nil] at hval
        have KS : Hid (∀ n, Calls Try.prog 16 #[.pointer (some ⟨b, 0, none⟩)] (wr.drewN n) fun e w' => e = .returned (.string ⟨(val s (k + 1)).1.toArray⟩) ∧ (w'.cell? ⟨P, 1, none⟩ = some (.int .i64 (((val s (k + 1)).2 : Nat) : Int)) ∧ Below P w w')) := fun n =>
          string_all (W := wr.drewN n) hPb (unhide HSC).2.1 hIB hbs (below_drewN hBel n) hval
        clear hd hex hIB hval
        go_wp2
        go_quiet (first | (go_at_call 14; exact quiet_draw (unhide HD _) (fun n => ⟨_, by rw [World.drewN_drewN]⟩)))
        go_wp2_with (fail)
        refine (unhide KC _).mono ?_
        rintro e w2 ⟨rfl, m, rfl⟩
        go_wp2_with (fail)
        refine (unhide KS _).mono ?_
        rintro e w3 ⟨rfl, h1, h2⟩
        have FIN := hide (And.intro h1 h2)
        clear h1 h2
        go_wp2_with (fail)
        go_ret
        exact ⟨rfl, unhide FIN⟩
end Go.Proofs.Qxb6603346a.Leaf
