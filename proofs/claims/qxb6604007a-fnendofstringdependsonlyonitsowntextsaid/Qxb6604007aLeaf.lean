import Derived.Test.Qxb6604007aProg
import Derived.Test.Qxb6604007aPlain
import Derived.WalkKit
import Derived.WalkLawsBesides
import Derived.WalkSpells
import Derived.Deep.LoopGhost
import Derived.Deep.Light
import Derived.Lib.BytesEntry
import Derived.Lib.UnsafeStr
namespace Go.Proofs.Qxb6604007a.Leaf
open Go Go.RowKit Plain
set_option linter.unusedVariables false

theorem hide {p : Prop} (h : p) : Hid p := h
theorem unhide {p : Prop} (h : Hid p) : p := h
theorem stand {p : Prop} (h : Hid p) : p := h
theorem ret_int {k : IntKind} {a b : Int} (h : a = b) : Ending.returned (.int k a) = .returned (.int k b) := by rw [h]
theorem ret_bool {a b : Bool} (h : a = b) : Ending.returned (.bool a) = .returned (.bool b) := by rw [h]

/-- A row of n bytes at the head of block b. -/
def Row (w : World) (b n : Nat) (B : Nat → UInt8) : Prop := ∀ i, i < n → w.cell? ⟨b, i, none⟩ = some (.int .u8 ((B i).toNat : Int))

set_option maxHeartbeats 400000 in
theorem bytes15 (a : Option Addr) (n c : Nat) (p : Int) (w : World) (h : n ≤ 1048576) :
    Calls Try.prog 15 #[.slice a n c, .int .i64 p] w fun e w' => e = .returned (.bool true) ∧ w' = w := by
  go_enter Try.func15, Try.ntmps15
  go_wp2
  go_ret
  exact ⟨rfl, rfl⟩
set_option maxHeartbeats 400000 in
theorem bytes15_no (a : Option Addr) (n c : Nat) (p : Int) (w : World) (h : 1048576 < n) :
    Calls Try.prog 15 #[.slice a n c, .int .i64 p] w fun e w' => e = .returned (.bool false) ∧ w' = w := by
  go_enter Try.func15, Try.ntmps15
  go_wp2
  go_ret
  exact ⟨rfl, rfl⟩
set_option maxHeartbeats 400000 in
theorem bytes18 (a a' : Option Addr) (n c n' c' : Nat) (p : Int) (w : World) (h : n + n' ≤ 1048576) :
    Calls Try.prog 18 #[.slice a n c, .slice a' n' c', .int .i64 p] w fun e w' => e = .returned (.bool true) ∧ w' = w := by
  go_enter Try.func18, Try.ntmps18
  go_wp2
  go_ret
  exact ⟨rfl, rfl⟩
set_option maxHeartbeats 400000 in
theorem bytes18_no (a a' : Option Addr) (n c n' c' : Nat) (p : Int) (w : World) (hn : n ≤ maxLen) (hn' : n' ≤ maxLen) (h : 1048576 < n + n') :
    Calls Try.prog 18 #[.slice a n c, .slice a' n' c', .int .i64 p] w fun e w' => e = .returned (.bool false) ∧ w' = w := by
  by_cases h1 : 1048576 < n
  · go_enter Try.func18, Try.ntmps18
    go_wp2
    go_ret
    exact ⟨rfl, rfl⟩
  · by_cases h2 : 1048576 < n'
    · go_enter Try.func18, Try.ntmps18
      go_wp2
      go_ret
      exact ⟨rfl, rfl⟩
    · go_enter Try.func18, Try.ntmps18
      go_wp2
      go_ret
      exact ⟨rfl, rfl⟩

set_option maxHeartbeats 1000000 in
set_option maxRecDepth 100000 in
theorem indexByte_any (b o n c : Nat) (xs : List Int) (cv : Int) (w : World) (hx : xs.length = n) (hc : ∀ i, i < n → w.cell? ⟨b, o + i, none⟩ = some (.int .u8 (xs.getD i 0))) :
    Calls Try.prog 32 #[.slice (some ⟨b, o, none⟩) n c, .int .u8 cv] w fun e w' => e = .returned (.int .i64 (Lib.indexByte (Lib.bytesOf xs) cv.toNat.toUInt8)) ∧ w' = w := by
  have H := hide hc
  clear hc
  go_enter Try.func32, Try.ntmps32
  go_wp2
  rw [run_callFunc_extern Try.func34 (by kernel_rfl) (by kernel_rfl) (by kernel_rfl) (e := Extern.BytealgIndexByte.indexByte) (by kernel_rfl), Lib.run_indexByteSlice w b o n c xs hx (unhide H) cv]
  simp only [Result.andThen]
  rw [Oper.upon_value]
  go_wp2
  go_ret
  exact ⟨rfl, rfl⟩

/-- The first quote in the row from place j on. -/
theorem indexByte_row {w : World} {b n j : Nat} {B : Nat → UInt8} (h : Row w b n B) (hj : j ≤ n) (o c : Nat) (ho : o = j ∨ j = n) {r : Int} (hr : Lib.indexByte ((List.range (n - j)).map fun i => B (j + i)) 34 = r) :
    Calls Try.prog 32 #[.slice (some ⟨b, o, none⟩) (n - j) c, .int .u8 34] w fun e w' => e = .returned (.int .i64 r) ∧ w' = w := by
  have hb := indexByte_any b o (n - j) c ((List.range (n - j)).map fun i => ((B (j + i)).toNat : Int)) 34 w (by simp) (fun i hi => by
    rcases ho with rfl | rfl
    · rw [h (o + i) (by omega), List.getD_eq_getElem?_getD, List.getElem?_map, List.getElem?_range hi]
      rfl
    · omega)
  have e : Lib.bytesOf ((List.range (n - j)).map fun i => ((B (j + i)).toNat : Int)) = (List.range (n - j)).map fun i => B (j + i) := by
    simp [Lib.bytesOf, List.map_map, Function.comp_def]
  rw [e, show (34 : Int).toNat.toUInt8 = 34 from rfl, hr] at hb
  exact hb

set_option maxHeartbeats 1000000 in
theorem end_all {w : World} {b n c k : Nat} {B : Nat → UInt8} (h : Row w b n B) (hn : n ≤ 1048576) (hc : n ≤ c) (hc2 : c ≤ maxLen) (hk : k < n) (hq : B k = 34) :
    Calls Try.prog 26 #[.slice (some ⟨b, 0, none⟩) n c, .int .i64 (k : Int)] w fun e w' => e = .returned (.int .i64 (mdl n B (k + 1))) ∧ w' = w := by
  obtain ⟨res, hres⟩ : ∃ res, res = mdl n B (k + 1) := ⟨_, rfl⟩
  rw [← hres]
  have HR := hide hres
  have HB := hide h
  have HQ := hide hq
  clear hres h hq
  go_enter Try.func26, Try.ntmps26
  go_wp2_with fail
  go_loopg [1, 5, 6] (n - (k + 1)) (fun g v _ _ wr => ∃ j, g = n - j ∧ v = .int .i64 (j : Int) ∧ 1 ≤ j ∧ j ≤ n ∧ wr = w ∧ Hid (res = mdl n B j ∧ B (j - 1) = 34))
  case atStart => exact ⟨k + 1, rfl, by simp, by omega, by omega, rfl, unhide HR, unhide HQ⟩
  case round =>
    obtain ⟨j, rfl, rfl, hj1, hj, rfl, H⟩ := hrel
    by_cases hcj : c = j
    · have hjn : j = n := by omega
      have KI : Hid (Calls Try.prog 32 #[.slice (some ⟨b, 0, none⟩) 0 0, .int .u8 34] wr fun e w' => e = .returned (.int .i64 (-1)) ∧ w' = wr) :=
        indexByte_any b 0 0 0 [] 34 wr rfl (fun i hi => absurd hi (by omega))
      have FIN : Hid (res = -1) := (unhide H).1.trans (mdl_past n B j (by omega))
      clear H
      go_wp2_with fail
      refine (unhide KI).mono ?_
      rintro e w' ⟨rfl, rfl⟩
      go_wp2_with fail
      go_ret
      exact ⟨by rw [unhide FIN]; rfl, rfl⟩
    · rcases first_cases B j (n - j) with hf | ⟨o, hf⟩
      · have KI := hide (fun c => indexByte_row (unhide HB) hj j c (Or.inl rfl) hf)
        have FIN : Hid (res = -1) := (unhide H).1.trans (mdl_none n B _ j (Nat.le_refl _) fun i h1 h2 => first_none hf i h1 (by omega))
        clear hf H
        go_wp2_with fail
        refine (unhide KI _).mono ?_
        rintro e w' ⟨rfl, rfl⟩
        go_wp2_with fail
        go_ret
        exact ⟨by rw [unhide FIN]; rfl, rfl⟩
      · have KI := hide (fun c => indexByte_row (unhide HB) hj j c (Or.inl rfl) hf)
        obtain ⟨ho, h34, hno⟩ := first_some hf
        have TURN := hide (mdl_turn (n := n) (B := B) (p := j) (q := j + o) (by omega) h34 (by omega) hj1 (by rw [(unhide H).2]; decide) hno)
        have H34 := hide h34
        clear hf h34 hno
        have hod : decide ((o : Int) < 0) = false := by simp
        go_wp2_with fail
        refine (unhide KI _).mono ?_
        rintro e w' ⟨rfl, rfl⟩
        go_wp2_with fail
        go_loopg [6] o (fun g v wx => ∃ t, g = o - t ∧ v = .int .i64 (t : Int) ∧ t ≤ o ∧ wx = w' ∧ Hid (sl B (j + o) = t + sl B (j + o - t)))
        case atStart => exact ⟨0, rfl, rfl, by omega, rfl, by show _ = _; simp⟩
        case round =>
          obtain ⟨t, rfl, rfl, ht, rfl, HT⟩ := hrel
          have hcell : wr.cell? ⟨b, j + o - 1 - t, none⟩ = some (.int .u8 ((B (j + o - 1 - t)).toNat : Int)) := unhide HB _ (by omega)
          by_cases h92 : B (j + o - 1 - t) = 92
          · have hlt : t < o := by
              by_cases e : t < o
              · exact e
              · have := (unhide H).2
                rw [show j + o - 1 - t = j - 1 from by omega, this] at h92
                exact absurd h92 (by decide)
            have hx : (((B (j + o - 1 - t)).toNat : Int) == 92) = true := by rw [h92]; rfl
            have H2 : Hid (sl B (j + o) = (t + 1) + sl B (j + o - (t + 1))) := by
              have := unhide HT
              rw [show j + o - t = (j + o - 1 - t) + 1 from by omega, sl_yes h92] at this
              show _ = _
              rw [this, show j + o - (t + 1) = j + o - 1 - t from by omega]; omega
            clear HT h92
            go_wp2_with fail
            go_roundg (o - (t + 1))
            case measure => omega
            case rel => exact ⟨t + 1, rfl, by simp, by omega, rfl, unhide H2⟩
          · have hx : (((B (j + o - 1 - t)).toNat : Int) == 92) = false := by
              simp only [beq_eq_false_iff_ne, ne_eq]
              intro e
              exact h92 (UInt8.toNat_inj.1 (by rw [show (92 : UInt8).toNat = 92 from rfl]; omega))
            have hs : sl B (j + o) = t := by
              have := unhide HT
              rw [show j + o - t = (j + o - 1 - t) + 1 from by omega, sl_no h92] at this
              omega
            have TU := unhide TURN
            rw [hs] at TU
            by_cases hpar : t % 2 = 0
            · rw [if_pos hpar] at TU
              have FIN : Hid (res = (j : Int) + o + 1) := by
                show _ = _
                rw [(unhide H).1, TU]; omega
              clear TU hs h92 HT
              have hp' : (t : Int) % 2 = 0 := by omega
              go_wp2_with fail
              go_ret
              exact ⟨by rw [unhide FIN]; rfl, rfl⟩
            · rw [if_neg hpar] at TU
              have H2 : Hid (res = mdl n B (j + o + 1) ∧ B (j + o + 1 - 1) = 34) := ⟨(unhide H).1.trans TU, unhide H34⟩
              clear TU hs h92 HT
              have hp' : (t : Int) % 2 = 1 := by omega
              go_wp2_with fail
              go_roundg (n - (j + o + 1))
              case measure => omega
              case rel => exact ⟨j + o + 1, rfl, by simp, by omega, by omega, rfl, unhide H2⟩
end Go.Proofs.Qxb6604007a.Leaf
