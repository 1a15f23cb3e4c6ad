import Derived.Test.Qxb6603346aScanner
import Derived.Deep.CutBlock
import Derived.Laws.BytesArg
import Derived.OwnWalk
namespace Go.Proofs.Qxb6603346a.Leaf
open Go Go.RowKit Plain
set_option linter.unusedVariables false

theorem conv_own {W : World} {B : Nat} {v : Value} {o : List UInt8} (h : W.ownsRow B 5 1 v o.length (Lib.byteCells o)) : (convert 27 9 v).run Try.prog W = .ok (.string ⟨o.toArray⟩) W := by
  obtain ⟨_, h⟩ := h
  rcases h with ⟨rfl, h0⟩ | ⟨g, cap, cur, rfl, hg, hh, h1, h2, h3, h4⟩
  · rw [List.length_eq_zero_iff.1 h0]
    exact run_convert_bytes_nil W 27 5 Try.underlying27 Try.underlying5 0 0 9 Try.underlying9
  · have := run_convert_bytes_arg W 27 5 Try.underlying27 Try.underlying5 g 0 o.length cap (o.map fun c => (c.toNat : Int)) (by simp) (fun i hi => ?_) 9 Try.underlying9
    · rw [this]
      have e : strOfNums (o.map fun c => (c.toNat : Int)) = ⟨o.toArray⟩ := by simp [strOfNums, List.map_map, Function.comp_def]
      rw [e]
    · rw [Nat.zero_add, Lib.cell_of_heap hh]
      have : (Lib.byteCells o)[i]? = some (.int .u8 (o[i].toNat : Int)) := by simp [Lib.byteCells, hi]
      rw [← h4, Nat.mul_one, List.getElem?_take_of_lt hi, Array.getElem?_toList] at this
      rw [this]
      simp [List.getD_eq_getElem?_getD, hi]

theorem make27 {i0 : TypeInfo} (hi : Try.prog.info? 5 = some i0) (hz0 : i0.zero = some (.int .u8 0)) (hz1 : i0.size = 1) (hz2 : i0.bytes = 1) (c : Nat) (hc : c ≤ 1048576) :
    ∃ mk : World → World, ∀ w : World, (Instr.makeSlice 27 (.int .i64 0) (.int .i64 (c : Int))).run Try.prog w = .ok (.slice (some ⟨w.heap.size, 0, none⟩) 0 c) (mk w) ∧
      (mk w).ownsRow w.heap.size 5 1 (.slice (some ⟨w.heap.size, 0, none⟩) 0 c) 0 [] ∧ w.grownBy (mk w) none :=
  Classical.skolem.1 fun w => run_make_own w w.heap.size 27 5 i0 (.int .u8 0) 1 Try.underlying27 hi hz0 hz1 .i64 .i64 c (by rw [hz2]; omega) (by unfold maxLen; omega) (Nat.le_refl _)

/-- What the second pass has done when it stands at place j of the content. -/
def Out (s : ByteArray) (E k B : Nat) (out : List UInt8) (w wr : World) (v : Value) (j : Nat) : Prop :=
  ∃ o : List UInt8, wr.ownsRow B 5 1 v o.length (Lib.byteCells o) ∧ B ≤ wr.heap.size ∧ Below B w wr ∧ o.length ≤ j ∧ out = o ++ unq s E (k + 1 + j)

theorem out_step {s : ByteArray} {E k B j i j' g cap : Nat} {out o : List UInt8} {w wr w2 : World} {v : Value} {ob : Obj} {c : Int} (hBw : B ≤ wr.heap.size) (hBel : Below B w wr) (hol : o.length ≤ j) (hj : j < j') (hout : out = o ++ unq s E (k + 1 + j))
    (hown : wr.ownsRow B 5 1 v o.length (Lib.byteCells o)) (hc : c = ((bAt s i).toNat : Int))
    (hown' : w2.ownsRow B 5 1 (.slice (some ⟨g, 0, none⟩) (o.length + 1) cap) (o.length + 1) (Lib.byteCells o ++ [.int .u8 c])) (hgrow : (wr.alloc ob).grownBy w2 v.ownBlock) (hu : unq s E (k + 1 + j) = bAt s i :: unq s E (k + 1 + j')) :
    Out s E k B out w w2 (.slice (some ⟨g, 0, none⟩) (o.length + 1) cap) j' := by
  refine ⟨o ++ [bAt s i], ?_, ?_, ?_, by simp; omega, by rw [hout, hu]; simp⟩
  · rw [Lib.byteCells_append]
    rw [hc] at hown'
    rw [List.length_append]
    exact hown'
  · have := hgrow.size; simp at this; omega
  · refine (hBel.alloc hBw _).grown hgrow (by simp; omega) ?_
    intro k hk
    exact (hown.lt k hk).1

set_option maxHeartbeats 1000000 in
theorem model {s : ByteArray} {k : Nat} {w : World} (hs : s.size ≤ 1048576) (hk : k < s.size) :
    Calls Try.prog 7 #[.string s, .int .i64 (k : Int)] w fun e w' => e = .returned (.tuple #[.string ⟨(unq s (qend s (k + 1)) (k + 1)).toArray⟩, .int .i64 (((if qend s (k + 1) < s.size then qend s (k + 1) + 1 else s.size) : Nat) : Int)]) ∧ Below w.heap.size w w' := by
  obtain ⟨i0, hi, hz0, hz1, hz2⟩ := info_parts info5
  obtain ⟨hE1, hE2⟩ := qend_bd s _ (k + 1) (Nat.le_refl _) (by omega)
  obtain ⟨E, hE⟩ : ∃ E, E = qend s (k + 1) := ⟨_, rfl⟩
  rw [← hE] at hE1 hE2
  rw [← hE]
  have HE := hide hE
  clear hE
  obtain ⟨out, hout⟩ : ∃ out, out = unq s E (k + 1) := ⟨_, rfl⟩
  rw [← hout]
  have HOUT := hide hout
  clear hout
  obtain ⟨fin, hfin⟩ : ∃ fin : Nat, fin = if E < s.size then E + 1 else s.size := ⟨_, rfl⟩
  rw [← hfin]
  have HFIN := hide hfin
  clear hfin
  obtain ⟨mk, hall⟩ := make27 hi hz0 hz1 hz2 (E - (k + 1)) (by omega)
  have hmk := fun w => (hall w).1
  have HALL := hide (fun w => (hall w).2)
  clear hall
  go_enter Try.func7, Try.ntmps7
  go_upto_block 0 with fail
  go_cut [7] from 15 to 37 (fun v wx => v = .int .i64 (E : Int) ∧ wx = w)
  case first =>
    go_wp2_with fail
    go_loopg [7] (s.size - (k + 1)) (fun g v wr => ∃ j, g = s.size - j ∧ v = .int .i64 (j : Int) ∧ j ≤ s.size ∧ wr = w ∧ Hid (qend s (k + 1) = qend s j))
    case atStart => exact ⟨k + 1, rfl, by simp, by omega, rfl, rfl⟩
    case round =>
      obtain ⟨j, rfl, rfl, hj, rfl, H⟩ := hrel
      by_cases hlt : j < s.size
      · by_cases hq : bAt s j = 34
        · have hne' : (((s[j].toNat : Nat) : Int) != 34) = false := by have := byte_eq (c := 34) hlt hq; simp [this]
          have FIN : Hid ((j : Int) = E) := by show (j : Int) = E; rw [unhide HE, unhide H, qend_quote hlt hq]
          clear H hq
          go_wp2
          go_meet
          case rel => exact ⟨by rw [unhide FIN], rfl⟩
        · have hne' : (((s[j].toNat : Nat) : Int) != 34) = true := byte_ne (c := 34) hlt hq
          cases hes : esc s j with
          | true =>
            have hl1 := esc_lt hes
            have h92' : (((s[j].toNat : Nat) : Int) == 92) = true := by
              have h92 : bAt s j = 92 := by unfold esc at hes; simp at hes; exact hes.1
              have := byte_eq (c := 92) hlt h92
              rw [this]; rfl
            have H2 := hide ((unhide H).trans (qend_esc hlt hq hes))
            clear H hq hes
            go_wp2
            go_roundg (s.size - (j + 2))
            case measure => omega
            case rel => exact ⟨j + 2, rfl, by simp, by omega, rfl, unhide H2⟩
          | false =>
            have H2 := hide ((unhide H).trans (qend_plain hlt hq hes))
            by_cases h92 : bAt s j = 92
            · have h92' : (((s[j].toNat : Nat) : Int) == 92) = true := by
                have := byte_eq (c := 92) hlt h92
                rw [this]; rfl
              have hend : s.size ≤ j + 1 := by
                unfold esc at hes
                simp [h92] at hes
                omega
              clear H hq hes h92
              go_wp2
              go_roundg (s.size - (j + 1))
              case measure => omega
              case rel => exact ⟨j + 1, rfl, by simp, by omega, rfl, unhide H2⟩
            · have h92' : (((s[j].toNat : Nat) : Int) == 92) = false := by
                have := byte_ne (c := 92) hlt h92
                simpa using this
              clear H hq hes h92
              go_wp2
              go_roundg (s.size - (j + 1))
              case measure => omega
              case rel => exact ⟨j + 1, rfl, by simp, by omega, rfl, unhide H2⟩
      · have FIN : Hid ((j : Int) = E) := by show (j : Int) = E; rw [unhide HE, unhide H, qend_past s j (by omega)]
        clear H
        go_wp2
        go_meet
        case rel => exact ⟨by rw [unhide FIN], rfl⟩
  case rest =>
    obtain ⟨rfl, rfl⟩ := hcut
    go_upto_block 2 with fail
    obtain ⟨c, hc⟩ : ∃ c, c = s.extract (k + 1) E := ⟨_, rfl⟩
    rw [← hc]
    have hcs : c.size = E - (k + 1) := by rw [hc, ByteArray.size_extract]; omega
    have HB : Hid (∀ i (h : i < c.size), ((c[i].toNat : Nat) : Int) = ((bAt s (k + 1 + i)).toNat : Int)) := by
      intro i h
      rw [at_byte (by omega)]
      subst hc
      rw [ByteArray.getElem_extract]
    have START : Hid (Out s E k wc.heap.size out wc (mk wc) (.slice (some ⟨wc.heap.size, 0, none⟩) 0 (E - (k + 1))) 0) := by
      obtain ⟨h1, h2⟩ := unhide HALL wc
      exact ⟨[], h1, h2.size, (Below.refl _ wc).grown h2 (Nat.le_refl _) (fun k hk => by cases hk), Nat.zero_le _, unhide HOUT⟩
    clear hc hmk HALL
    go_wp2_with fail
    go_loopg [9, 10] (E - (k + 1)) (fun g v i wr => ∃ j, g = E - (k + 1) - j ∧ i = .int .i64 (j : Int) ∧ j ≤ E - (k + 1) ∧ Hid (Out s E k wc.heap.size out wc wr v j))
    case atStart => exact ⟨0, rfl, rfl, by omega, unhide START⟩
    case round =>
      obtain ⟨j, rfl, rfl, hj, H⟩ := hrel
      obtain ⟨o, hown, hBw, hBel, hol, hout⟩ := unhide H
      have hBk := fun i h => unhide HB i h
      by_cases hlt : j < c.size
      · by_cases he : c[j].toNat = 92 ∧ j + 1 < E - (k + 1)
        · obtain ⟨he1, he2⟩ := he
          have h92' : (((c[j].toNat : Nat) : Int) == 92) = true := by simp; omega
          have hl1 : j + 1 < c.size := by omega
          have hu : unq s E (k + 1 + j) = bAt s (k + 1 + (j + 1)) :: unq s E (k + 1 + (j + 2)) := by
            have hb := hBk j hlt
            have : bAt s (k + 1 + j) = 92 := UInt8.toNat_inj.1 (by rw [show (92 : UInt8).toNat = 92 from rfl]; omega)
            rw [unq_eq s E (k + 1 + j) (by omega), if_pos ⟨this, by omega⟩]
            rfl
          have HC := hide (hBk (j + 1) hl1)
          have HR := hide (And.intro hown (And.intro hBel (And.intro hout hu)))
          clear hown hBel hout hu hBk he1 H
          go_wp2_with (at_builtin; refine stand ?_)
          refine hide (wpList_append_lies _ rfl _ _ 27 rfl wc.heap.size 5 i0 (.int .u8 0) 1 1 Try.underlying27 hi hz0 hz1 hz2 rfl (by omega) _ o.length (Lib.byteCells o) rfl ((unhide HR).1.alloc _) ⟨wr.heap.size, 0, none⟩ 1 1 _ rfl ?c0 (World.news_of_block (heap_alloc_new _ _)) ?c2 (by omega) ?c3 ?c4 ?c5 _ rfl ?_)
          case c0 => rfl
          case c2 => intro u hu; simp at hu; subst hu; rfl
          case c3 => unfold maxLen; omega
          case c4 => omega
          case c5 => simp; omega
          intro g cap w2 hown' hgrow hat hlt2
          have ST : Hid (Out s E k wc.heap.size out wc w2 (.slice (some ⟨g, 0, none⟩) (o.length + 1) cap) (j + 2)) := by
            obtain ⟨hown, hBel, hout, hu⟩ := unhide HR
            exact out_step hBw hBel hol (by omega) hout hown (unhide HC) hown' hgrow hu
          clear hown' hgrow hat hlt2 HR
          go_wp2
          go_roundg (E - (k + 1) - (j + 2))
          case measure => omega
          case rel => exact ⟨j + 2, rfl, by simp, by omega, unhide ST⟩
        · have hu : unq s E (k + 1 + j) = bAt s (k + 1 + j) :: unq s E (k + 1 + (j + 1)) := by
            have hb := hBk j hlt
            rw [unq_eq s E (k + 1 + j) (by omega), if_neg]
            · rfl
            · rintro ⟨h1, h2⟩
              have : (bAt s (k + 1 + j)).toNat = 92 := by rw [h1]; rfl
              exact he ⟨by omega, by omega⟩
          have HC := hide (hBk j hlt)
          have HR := hide (And.intro hown (And.intro hBel (And.intro hout hu)))
          clear hown hBel hout hu hBk H
          by_cases he1 : c[j].toNat = 92
          · have h92' : (((c[j].toNat : Nat) : Int) == 92) = true := by simp; omega
            have hend : E - (k + 1) ≤ j + 1 := Nat.le_of_not_lt fun h => he ⟨he1, h⟩
            clear he he1
            go_wp2_with (at_builtin; refine stand ?_)
            refine hide (wpList_append_lies _ rfl _ _ 27 rfl wc.heap.size 5 i0 (.int .u8 0) 1 1 Try.underlying27 hi hz0 hz1 hz2 rfl (by omega) _ o.length (Lib.byteCells o) rfl ((unhide HR).1.alloc _) ⟨wr.heap.size, 0, none⟩ 1 1 _ rfl ?c0 (World.news_of_block (heap_alloc_new _ _)) ?c2 (by omega) ?c3 ?c4 ?c5 _ rfl ?_)
            case c0 => rfl
            case c2 => intro u hu; simp at hu; subst hu; rfl
            case c3 => unfold maxLen; omega
            case c4 => omega
            case c5 => simp; omega
            intro g cap w2 hown' hgrow hat hlt2
            have ST : Hid (Out s E k wc.heap.size out wc w2 (.slice (some ⟨g, 0, none⟩) (o.length + 1) cap) (j + 1)) := by
              obtain ⟨hown, hBel, hout, hu⟩ := unhide HR
              exact out_step hBw hBel hol (by omega) hout hown (unhide HC) hown' hgrow hu
            clear hown' hgrow hat hlt2 HR
            go_wp2
            go_roundg (E - (k + 1) - (j + 1))
            case measure => omega
            case rel => exact ⟨j + 1, rfl, by simp, by omega, unhide ST⟩
          · have h92' : (((c[j].toNat : Nat) : Int) == 92) = false := by simp; omega
            clear he he1
            go_wp2_with (at_builtin; refine stand ?_)
            refine hide (wpList_append_lies _ rfl _ _ 27 rfl wc.heap.size 5 i0 (.int .u8 0) 1 1 Try.underlying27 hi hz0 hz1 hz2 rfl (by omega) _ o.length (Lib.byteCells o) rfl ((unhide HR).1.alloc _) ⟨wr.heap.size, 0, none⟩ 1 1 _ rfl ?c0 (World.news_of_block (heap_alloc_new _ _)) ?c2 (by omega) ?c3 ?c4 ?c5 _ rfl ?_)
            case c0 => rfl
            case c2 => intro u hu; simp at hu; subst hu; rfl
            case c3 => unfold maxLen; omega
            case c4 => omega
            case c5 => simp; omega
            intro g cap w2 hown' hgrow hat hlt2
            have ST : Hid (Out s E k wc.heap.size out wc w2 (.slice (some ⟨g, 0, none⟩) (o.length + 1) cap) (j + 1)) := by
              obtain ⟨hown, hBel, hout, hu⟩ := unhide HR
              exact out_step hBw hBel hol (by omega) hout hown (unhide HC) hown' hgrow hu
            clear hown' hgrow hat hlt2 HR
            go_wp2
            go_roundg (E - (k + 1) - (j + 1))
            case measure => omega
            case rel => exact ⟨j + 1, rfl, by simp, by omega, unhide ST⟩
      · have hjm : j = E - (k + 1) := by omega
        have hoo : out = o := by rw [hout, unq_past s E (k + 1 + j) (by omega), List.append_nil]
        have hcv := conv_own hown
        rw [← hoo] at hcv
        have FIN := hide hBel
        clear hown hBel hout hoo hBk H
        by_cases hEs : E < s.size
        · have HF : Hid (fin = E + 1) := (unhide HFIN).trans (if_pos hEs)
          go_wp2
          go_ret2
          exact ⟨by rw [unhide HF]; rfl, unhide FIN⟩
        · have HF : Hid (fin = s.size) := (unhide HFIN).trans (if_neg hEs)
          go_wp2
          go_ret2
          exact ⟨by rw [unhide HF]; rfl, unhide FIN⟩
end Go.Proofs.Qxb6603346a.Leaf
