import Derived.Test.Qxb6602990aSmall
namespace Go.Proofs.Qxb6602990a.Leaf
open Go Go.RowKit Plain Heap
set_option linter.unusedVariables false

/-- The field Pub of the struct in block P holds the subjects S. -/
def Pub (w : World) (P g cap : Nat) (S : List (List (List UInt8))) : Prop := w.cell? ⟨P, 0, none⟩ = some (.slice (some ⟨g, 0, none⟩) S.length cap) ∧ Rows w g S ∧ P < w.heap.size

theorem Pub.kept {w w' : World} {P g cap : Nat} {S : List (List (List UInt8))} (h : Pub w P g cap S) (hs : w.heap.size ≤ w'.heap.size) (hP : w'.heap[P]? = w.heap[P]?) (hg : w'.heap[g]? = w.heap[g]?) : Pub w' P g cap S :=
  ⟨(World.cell?_of_block (a := ⟨P, 0, none⟩) hP).trans h.1, ⟨Nat.lt_of_lt_of_le h.2.1.1 hs, fun i hi => (World.cell?_of_block (a := ⟨g, i, none⟩) hg).trans (h.2.1.2 i hi)⟩, Nat.lt_of_lt_of_le h.2.2 hs⟩

theorem pub_of {w w' : World} {P : Nat} {V : List ByteArray} {S : List (List (List UInt8))} (h : JsPost w w' P V) (hV : V = S.map fun x => bs (join x)) (hP : P < w.heap.size) : ∃ g cap, Pub w' P g cap S ∧ w.heap.size ≤ g ∧ w.grownBy w' (some P) := by
  obtain ⟨g, cap, h1, h2, h3, h4, h5⟩ := h
  subst hV
  refine ⟨g, cap, ⟨?_, ⟨h3, fun i hi => ?_⟩, Nat.lt_of_lt_of_le hP h5.size⟩, h2, h5⟩
  · rw [h1, List.length_map]
  · rw [h4 i (by rw [List.length_map]; exact hi), List.getElem_map]

/-- The empty struct Permissions. -/
abbrev perm : Obj := .cells #[.slice none 0 0, .slice none 0 0, .bool false] 33

theorem two_js {w w1 w2 : World} {V1 V2 : List ByteArray} {S1 S2 : List (List (List UInt8))} (h1 : JsPost (w.alloc perm) w1 w.heap.size V1) (h2 : JsPost (w1.alloc perm) w2 w1.heap.size V2) (e1 : V1 = S1.map fun x => bs (join x)) (e2 : V2 = S2.map fun x => bs (join x)) :
    ∃ g1 cap1 g2 cap2, Pub w2 w.heap.size g1 cap1 S1 ∧ Pub w2 w1.heap.size g2 cap2 S2 ∧ Below w.heap.size w w2 := by
  obtain ⟨g1, cap1, p1, l1, r1⟩ := pub_of h1 e1 (by simp)
  obtain ⟨g2, cap2, p2, l2, r2⟩ := pub_of h2 e2 (by simp)
  have s1 := r1.size
  have s2 := r2.size
  simp at s1 s2 l1 l2
  have hb : ∀ b, b < w1.heap.size → w2.heap[b]? = w1.heap[b]? := fun b hb => by
    rw [r2.block b (by simp; omega) (by simp; omega), Below.heap_alloc _ _ _ hb]
  refine ⟨g1, cap1, g2, cap2, p1.kept (by omega) (hb _ (by omega)) (hb _ p1.2.1.1), p2, ?_⟩
  refine ⟨r2.os.trans r1.os, r2.tape.trans r1.tape, r2.output.trans r1.output, by omega, fun b hb' => ?_⟩
  rw [hb b (by omega), r1.block b (by simp; omega) (by simp; omega), Below.heap_alloc _ _ _ hb']

theorem Pub.below {w w' : World} {P g cap : Nat} {S : List (List (List UInt8))} (h : Pub w P g cap S) (hb : Below w.heap.size w w') : Pub w' P g cap S :=
  h.kept hb.size (hb.block _ h.2.2) (hb.block _ h.2.1.1)

theorem fresh_perm (w : World) : w.heap.size < (w.alloc perm).heap.size ∧ (w.alloc perm).cell? ⟨w.heap.size, 0, none⟩ = some (.slice none 0 0) ∧ (w.alloc perm).frozen? ⟨w.heap.size, 0, none⟩ = false :=
  ⟨by simp, by rw [World.cell?_alloc_at _ _ _ _ rfl]; rfl, World.frozen?_alloc_at _ _ _ _ rfl⟩

theorem empty_is : (⟨#[]⟩ : ByteArray).toList.isEmpty = true := by rw [Lib.toList_data]; rfl
theorem star_ne : (⟨#[42]⟩ : ByteArray).toList.isEmpty = false := by rw [Lib.toList_data]; rfl
theorem star_is : ((⟨#[42]⟩ : ByteArray).toList == [42]) = true := by rw [Lib.toList_data]; rfl

theorem len_any (n : List UInt8) : (anyS n).length = 10 := rfl
theorem len_one (n p : List UInt8) : (oneS n p).length = 9 := rfl

theorem treeOf_len {S : List (List (List UInt8))} (hS : ∀ s ∈ S, Subj s) {N : Nat} (hN : S.length = N) (hlen : N ≤ 100) (g cap : Nat) (w : World) (hR : Rows w g S) :
    Calls Try.prog 24 #[.slice (some ⟨g, 0, none⟩) N cap] w fun e w' => ∃ root, e = .returned (.pointer (some ⟨root, 0, none⟩)) ∧ TreeAt w' w.heap.size root S.reverse ∧ Below w.heap.size w w' := by
  subst hN; exact treeOf_all hS hlen g cap w hR

theorem treeAt_draw {w : World} {B root : Nat} {L : List (List (List UInt8))} (h : TreeAt w B root L) (n : Nat) : TreeAt (w.drewN n) B root L := h.kept fun _ _ _ => rfl

set_option maxHeartbeats 2000000 in
theorem grants_named (k : Int) (s c : ByteArray) (w : World) (hs : s.size ≤ 65536) (hcs : c.size ≤ 65536) (hn : natsB s.data.toList = true) (hp : natsB c.data.toList = true) (hce : c.toList.isEmpty = false) (hc2 : (c.toList == [42]) = false) :
    Calls Try.prog 6 #[.int .i64 k, .string s, .string c] w fun e w' => e = .returned (.bool true) ∧ Below w.heap.size w w' := by
  obtain ⟨tn, gn⟩ := nats_tok hn
  obtain ⟨tp, gp⟩ := nats_tok hp
  have ln : s.data.toList.length ≤ 65536 := by rw [← Lib.size_eq]; exact hs
  have lp : c.data.toList.length ≤ 65536 := by rw [← Lib.size_eq]; exact hcs
  have S1 := hide (subj_any tn ln)
  have S2 := hide (subj_one tn ln tp lp)
  have C1 := hide (cov_any s.data.toList c.data.toList gp)
  have C2 := hide (cov_one_list s.data.toList c.data.toList)
  have S3 := hide (subj_any tn ln [tJS, tAPI, tCONSUMER, st, s.data.toList] (by simp [anyS]))
  have E3 : Hid ((⟨#[36, 74, 83, 46, 65, 80, 73, 46, 67, 79, 78, 83, 85, 77, 69, 82, 46, 42, 46]⟩ : ByteArray) ++ s = bs (join [tJS, tAPI, tCONSUMER, st, s.data.toList])) := by
    have := anyV_eq s c
    exact (List.cons.inj this).1
  have HN := hide hn
  have HP := hide hp
  clear hn hp tn tp ln lp gn gp
  have d1 : decide ((65536 : Int) < (s.size : Int)) = false := by simp; omega
  have d2 : decide ((65536 : Int) < (c.size : Int)) = false := by simp; omega
  go_enter Try.func6, Try.ntmps6
  go_wp2_with (first | (go_at_call 21; refine (bytes21 _ _ _ _ (by unfold maxLen; omega) (by unfold maxLen; omega) (by omega)).mono ?_; rintro e w' ⟨rfl, hw⟩; subst hw))
  refine (nats_is (unhide HN) _ (by omega)).mono ?_
  rintro e w1 ⟨rfl, hw⟩
  subst hw
  go_wp2_with (fail)
  refine (nats_is (unhide HP) _ (by omega)).mono ?_
  rintro e w ⟨rfl, hw⟩
  subst hw
  go_wp2_with (fail)
  refine (zzjs_of k s ⟨#[]⟩ _ _ (fresh_perm _).1 (fresh_perm _).2.1 (fresh_perm _).2.2 (fun w a b d => js_any1 k s ⟨#[]⟩ _ w hs (by decide) empty_is a b d)).mono ?_
  rintro e w1 ⟨rfl, j1⟩
  have J1 := hide j1
  clear j1
  go_wp2_with (fail)
  refine (zzjs_of k s c _ _ (fresh_perm _).1 (fresh_perm _).2.1 (fresh_perm _).2.2 (fun w a b d => js_named k s c _ w hs hcs hce hc2 a b d)).mono ?_
  rintro e w2 ⟨rfl, j2⟩
  obtain ⟨g1, cap1, g2, cap2, p1, p2, bel⟩ := two_js (unhide J1) j2 (anyV_eq _ _) (oneV_eq _ _)
  have f1 := p1.1
  rw [len_any] at f1
  have R1 := hide p1.2.1
  have PB2 := hide p2
  have BL := hide bel
  clear p1 p2 bel j2 J1
  go_wp2_with (fail)
  refine (treeOf_len (unhide S1) (len_any _) (by omega) _ _ _ (unhide R1)).mono ?_
  rintro e w3 ⟨root, rfl, t3, b3⟩
  have q2 := (unhide PB2).below b3
  have f2 := q2.1
  rw [len_one] at f2
  have R2 := hide q2.2.1
  have T3 := hide t3
  have BL3 := hide ((unhide BL).trans (b3.mono (unhide BL).size))
  clear t3 b3 q2 f1 R1 PB2 BL
  go_wp2_with (fail)
  go_loopg [10] 9 (fun gg i wr => ∃ j n : Nat, i = .int .i64 j ∧ j ≤ 9 ∧ gg = 9 - j ∧ wr = w3.drewN n)
  case atStart => exact ⟨0, 0, rfl, Nat.zero_le _, rfl, rfl⟩
  case round =>
    obtain ⟨j, n, rfl, hj, rfl, rfl⟩ := hrel
    by_cases hlt : j < 9
    · have hl : j < (oneS s.data.toList c.data.toList).length := hlt
      have hcell := (unhide R2).2 j hl
      have key := zzcovers_all (unhide S2 _ (List.getElem_mem hl)) (w3.drewN n) (treeAt_draw (unhide T3) n) (unhide C1 _ (List.getElem_mem hl))
      obtain ⟨X, hX⟩ : ∃ X, X = bs (join (oneS s.data.toList c.data.toList)[j]) := ⟨_, rfl⟩
      rw [← hX] at key hcell
      have K := hide key
      clear key hX hl
      go_wp2_with (fail)
      refine (unhide K).mono ?_
      rintro e w4 ⟨rfl, m, rfl⟩
      go_wp2_with (fail)
      go_roundg (9 - (j + 1))
      case measure => omega
      case rel => exact ⟨j + 1, n + m, by go_num, by omega, rfl, rfl⟩
    · obtain rfl : j = 9 := by omega
      have RB := hide (below_drewN (unhide BL3) n)
      go_wp2_with (fail)
      refine (treeOf_len (unhide S2) (len_one _ _) (by omega) _ _ _ (show Rows (w3.drewN n) g2 _ from unhide R2)).mono ?_
      rintro e w5 ⟨root2, rfl, t5, b5⟩
      have key := zzcovers_all (unhide S3) w5 t5 (unhide C2)
      rw [← unhide E3] at key
      have K := hide key
      have BL5 := hide ((unhide RB).trans (b5.mono (unhide RB).size))
      clear key t5 b5 RB
      go_wp2_with (fail)
      refine (unhide K).mono ?_
      rintro e w6 ⟨rfl, m, rfl⟩
      go_wp2_with (fail)
      go_ret
      exact ⟨rfl, below_drewN (unhide BL5) m⟩


set_option maxHeartbeats 2000000 in
theorem grants_empty (k : Int) (s : ByteArray) (w : World) (hs : s.size ≤ 65536) (hn : natsB s.data.toList = true) :
    Calls Try.prog 6 #[.int .i64 k, .string s, .string ⟨#[]⟩] w fun e w' => e = .returned (.bool true) ∧ Below w.heap.size w w' := by
  obtain ⟨tn, gn⟩ := nats_tok hn
  have ln : s.data.toList.length ≤ 65536 := by rw [← Lib.size_eq]; exact hs
  have S1 := hide (subj_any tn ln)
  have S2 := S1
  have C1 : Hid (∀ x ∈ anyS s.data.toList, cov (anyS s.data.toList).reverse x = true) := fun x hx => cov_self hx
  have HN := hide hn
  clear hn tn ln gn
  have d1 : decide ((65536 : Int) < (s.size : Int)) = false := by simp; omega
  go_enter Try.func6, Try.ntmps6
  go_wp2_with (first | (go_at_call 21; refine (bytes21 _ _ _ _ (by unfold maxLen; omega) (by decide) (by rw [show (⟨#[]⟩ : ByteArray).size = 0 from rfl]; omega)).mono ?_; rintro e w' ⟨rfl, hw⟩; subst hw))
  refine (nats_is (unhide HN) _ (by omega)).mono ?_
  rintro e w ⟨rfl, hw⟩
  subst hw
  go_wp2_with (fail)
  refine (zzjs_of k s ⟨#[]⟩ _ _ (fresh_perm _).1 (fresh_perm _).2.1 (fresh_perm _).2.2 (fun w a b d => js_any1 k s ⟨#[]⟩ _ w hs (by decide) empty_is a b d)).mono ?_
  rintro e w1 ⟨rfl, j1⟩
  have J1 := hide j1
  clear j1
  go_wp2_with (fail)
  refine (zzjs_of k s ⟨#[]⟩ _ _ (fresh_perm _).1 (fresh_perm _).2.1 (fresh_perm _).2.2 (fun w a b d => js_any1 k s ⟨#[]⟩ _ w hs (by decide) empty_is a b d)).mono ?_
  rintro e w2 ⟨rfl, j2⟩
  obtain ⟨g1, cap1, g2, cap2, p1, p2, bel⟩ := two_js (unhide J1) j2 (anyV_eq _ _) (anyV_eq _ _)
  have f1 := p1.1
  rw [len_any] at f1
  have R1 := hide p1.2.1
  have PB2 := hide p2
  have BL := hide bel
  clear p1 p2 bel j2 J1
  go_wp2_with (fail)
  refine (treeOf_len (unhide S1) (len_any _) (by omega) _ _ _ (unhide R1)).mono ?_
  rintro e w3 ⟨root, rfl, t3, b3⟩
  have q2 := (unhide PB2).below b3
  have f2 := q2.1
  rw [len_any] at f2
  have R2 := hide q2.2.1
  have T3 := hide t3
  have BL3 := hide ((unhide BL).trans (b3.mono (unhide BL).size))
  clear t3 b3 q2 f1 R1 PB2 BL
  go_wp2_with (fail)
  go_loopg [10] 10 (fun gg i wr => ∃ j n : Nat, i = .int .i64 j ∧ j ≤ 10 ∧ gg = 10 - j ∧ wr = w3.drewN n)
  case atStart => exact ⟨0, 0, rfl, Nat.zero_le _, rfl, rfl⟩
  case round =>
    obtain ⟨j, n, rfl, hj, rfl, rfl⟩ := hrel
    by_cases hlt : j < 10
    · have hl : j < (anyS s.data.toList).length := hlt
      have hcell := (unhide R2).2 j hl
      have key := zzcovers_all (unhide S2 _ (List.getElem_mem hl)) (w3.drewN n) (treeAt_draw (unhide T3) n) (unhide C1 _ (List.getElem_mem hl))
      obtain ⟨X, hX⟩ : ∃ X, X = bs (join (anyS s.data.toList)[j]) := ⟨_, rfl⟩
      rw [← hX] at key hcell
      have K := hide key
      clear key hX hl
      go_wp2_with (fail)
      refine (unhide K).mono ?_
      rintro e w4 ⟨rfl, m, rfl⟩
      go_wp2_with (fail)
      go_roundg (10 - (j + 1))
      case measure => omega
      case rel => exact ⟨j + 1, n + m, by go_num, by omega, rfl, rfl⟩
    · obtain rfl : j = 10 := by omega
      have RB := hide (below_drewN (unhide BL3) n)
      go_wp2_with (fail)
      go_ret
      exact ⟨rfl, unhide RB⟩

set_option maxHeartbeats 2000000 in
theorem grants_star (k : Int) (s : ByteArray) (w : World) (hs : s.size ≤ 65536) (hn : natsB s.data.toList = true) :
    Calls Try.prog 6 #[.int .i64 k, .string s, .string ⟨#[42]⟩] w fun e w' => e = .returned (.bool true) ∧ Below w.heap.size w w' := by
  obtain ⟨tn, gn⟩ := nats_tok hn
  have ln : s.data.toList.length ≤ 65536 := by rw [← Lib.size_eq]; exact hs
  have S1 := hide (subj_any tn ln)
  have S2 := S1
  have C1 : Hid (∀ x ∈ anyS s.data.toList, cov (anyS s.data.toList).reverse x = true) := fun x hx => cov_self hx
  have HN := hide hn
  have HP : Hid (natsB (⟨#[42]⟩ : ByteArray).data.toList = true) := hide (by decide)
  clear hn tn ln gn
  have d1 : decide ((65536 : Int) < (s.size : Int)) = false := by simp; omega
  go_enter Try.func6, Try.ntmps6
  go_wp2_with (first | (go_at_call 21; refine (bytes21 _ _ _ _ (by unfold maxLen; omega) (by decide) (by rw [show (⟨#[42]⟩ : ByteArray).size = 1 from rfl]; omega)).mono ?_; rintro e w' ⟨rfl, hw⟩; subst hw))
  refine (nats_is (unhide HN) _ (by omega)).mono ?_
  rintro e w1 ⟨rfl, hw⟩
  subst hw
  go_wp2_with (fail)
  refine (nats_is (unhide HP) _ (by decide)).mono ?_
  rintro e w ⟨rfl, hw⟩
  subst hw
  go_wp2_with (fail)
  refine (zzjs_of k s ⟨#[]⟩ _ _ (fresh_perm _).1 (fresh_perm _).2.1 (fresh_perm _).2.2 (fun w a b d => js_any1 k s ⟨#[]⟩ _ w hs (by decide) empty_is a b d)).mono ?_
  rintro e w1 ⟨rfl, j1⟩
  have J1 := hide j1
  clear j1
  go_wp2_with (fail)
  refine (zzjs_of k s ⟨#[42]⟩ _ _ (fresh_perm _).1 (fresh_perm _).2.1 (fresh_perm _).2.2 (fun w a b d => js_any2 k s ⟨#[42]⟩ _ w hs (by decide) star_ne star_is a b d)).mono ?_
  rintro e w2 ⟨rfl, j2⟩
  obtain ⟨g1, cap1, g2, cap2, p1, p2, bel⟩ := two_js (unhide J1) j2 (anyV_eq _ _) (anyV_eq _ _)
  have f1 := p1.1
  rw [len_any] at f1
  have R1 := hide p1.2.1
  have PB2 := hide p2
  have BL := hide bel
  clear p1 p2 bel j2 J1
  go_wp2_with (fail)
  refine (treeOf_len (unhide S1) (len_any _) (by omega) _ _ _ (unhide R1)).mono ?_
  rintro e w3 ⟨root, rfl, t3, b3⟩
  have q2 := (unhide PB2).below b3
  have f2 := q2.1
  rw [len_any] at f2
  have R2 := hide q2.2.1
  have T3 := hide t3
  have BL3 := hide ((unhide BL).trans (b3.mono (unhide BL).size))
  clear t3 b3 q2 f1 R1 PB2 BL
  go_wp2_with (fail)
  go_loopg [10] 10 (fun gg i wr => ∃ j n : Nat, i = .int .i64 j ∧ j ≤ 10 ∧ gg = 10 - j ∧ wr = w3.drewN n)
  case atStart => exact ⟨0, 0, rfl, Nat.zero_le _, rfl, rfl⟩
  case round =>
    obtain ⟨j, n, rfl, hj, rfl, rfl⟩ := hrel
    by_cases hlt : j < 10
    · have hl : j < (anyS s.data.toList).length := hlt
      have hcell := (unhide R2).2 j hl
      have key := zzcovers_all (unhide S2 _ (List.getElem_mem hl)) (w3.drewN n) (treeAt_draw (unhide T3) n) (unhide C1 _ (List.getElem_mem hl))
      obtain ⟨X, hX⟩ : ∃ X, X = bs (join (anyS s.data.toList)[j]) := ⟨_, rfl⟩
      rw [← hX] at key hcell
      have K := hide key
      clear key hX hl
      go_wp2_with (fail)
      refine (unhide K).mono ?_
      rintro e w4 ⟨rfl, m, rfl⟩
      go_wp2_with (fail)
      go_roundg (10 - (j + 1))
      case measure => omega
      case rel => exact ⟨j + 1, n + m, by go_num, by omega, rfl, rfl⟩
    · obtain rfl : j = 10 := by omega
      have RB := hide (below_drewN (unhide BL3) n)
      go_wp2_with (fail)
      go_ret
      exact ⟨rfl, unhide RB⟩

/-! ### The ways on which the law answers true at once -/
set_option maxHeartbeats 400000 in
theorem grants_long (k : Int) (s c : ByteArray) (w : World) (hs : s.size ≤ maxLen) (hcs : c.size ≤ maxLen) (h : 1048576 < s.size + c.size) :
    Calls Try.prog 6 #[.int .i64 k, .string s, .string c] w fun e w' => e = .returned (.bool true) ∧ Below w.heap.size w w' := by
  go_enter Try.func6, Try.ntmps6
  go_wp2_with (first | (go_at_call 21; refine (bytes21_no _ _ _ _ hs hcs h).mono ?_; rintro e w' ⟨rfl, hw⟩; subst hw))
  go_ret
  exact ⟨rfl, Below.refl _ _⟩
set_option maxHeartbeats 400000 in
theorem grants_wide (k : Int) (s c : ByteArray) (w : World) (h : s.size + c.size ≤ 1048576) (h2 : 65536 < s.size ∨ 65536 < c.size) :
    Calls Try.prog 6 #[.int .i64 k, .string s, .string c] w fun e w' => e = .returned (.bool true) ∧ Below w.heap.size w w' := by
  by_cases h3 : 65536 < s.size
  · go_enter Try.func6, Try.ntmps6
    go_wp2_with (first | (go_at_call 21; refine (bytes21 _ _ _ _ (by unfold maxLen; omega) (by unfold maxLen; omega) h).mono ?_; rintro e w' ⟨rfl, hw⟩; subst hw))
    go_ret
    exact ⟨rfl, Below.refl _ _⟩
  · have h4 : 65536 < c.size := by omega
    clear h2
    go_enter Try.func6, Try.ntmps6
    go_wp2_with (first | (go_at_call 21; refine (bytes21 _ _ _ _ (by unfold maxLen; omega) (by unfold maxLen; omega) h).mono ?_; rintro e w' ⟨rfl, hw⟩; subst hw))
    go_ret
    exact ⟨rfl, Below.refl _ _⟩
set_option maxHeartbeats 400000 in
theorem grants_name (k : Int) (s c : ByteArray) (w : World) (hs : s.size ≤ 65536) (hcs : c.size ≤ 65536) (hn : natsB s.data.toList = false) :
    Calls Try.prog 6 #[.int .i64 k, .string s, .string c] w fun e w' => e = .returned (.bool true) ∧ Below w.heap.size w w' := by
  have HN := hide hn
  clear hn
  go_enter Try.func6, Try.ntmps6
  go_wp2_with (first | (go_at_call 21; refine (bytes21 _ _ _ _ (by unfold maxLen; omega) (by unfold maxLen; omega) (by omega)).mono ?_; rintro e w' ⟨rfl, hw⟩; subst hw))
  refine (nats_is (unhide HN) _ (by omega)).mono ?_
  rintro e w1 ⟨rfl, hw⟩
  subst hw
  go_wp2_with (fail)
  go_ret
  exact ⟨rfl, Below.refl _ _⟩
set_option maxHeartbeats 400000 in
theorem grants_part (k : Int) (s c : ByteArray) (w : World) (hs : s.size ≤ 65536) (hcs : c.size ≤ 65536) (hn : natsB s.data.toList = true) (hp : natsB c.data.toList = false) (hce : c.toList.isEmpty = false) :
    Calls Try.prog 6 #[.int .i64 k, .string s, .string c] w fun e w' => e = .returned (.bool true) ∧ Below w.heap.size w w' := by
  have HN := hide hn
  have HP := hide hp
  clear hn hp
  go_enter Try.func6, Try.ntmps6
  go_wp2_with (first | (go_at_call 21; refine (bytes21 _ _ _ _ (by unfold maxLen; omega) (by unfold maxLen; omega) (by omega)).mono ?_; rintro e w' ⟨rfl, hw⟩; subst hw))
  refine (nats_is (unhide HN) _ (by omega)).mono ?_
  rintro e w1 ⟨rfl, hw⟩
  subst hw
  go_wp2_with (fail)
  refine (nats_is (unhide HP) _ (by omega)).mono ?_
  rintro e w1 ⟨rfl, hw⟩
  subst hw
  go_wp2_with (fail)
  go_ret
  exact ⟨rfl, Below.refl _ _⟩

theorem of_toList {s : ByteArray} {l : List UInt8} (h : s.toList = l) : s = ⟨l.toArray⟩ := by
  rw [Lib.toList_data] at h
  rw [bs_of s, h]; rfl

theorem grants_all (k : Int) (s c : ByteArray) (w : World) (hs : s.size ≤ maxLen) (hcs : c.size ≤ maxLen) :
    Calls Try.prog 6 #[.int .i64 k, .string s, .string c] w fun e w' => e = .returned (.bool true) ∧ Below w.heap.size w w' := by
  by_cases h1 : s.size + c.size ≤ 1048576
  · by_cases h2 : 65536 < s.size ∨ 65536 < c.size
    · exact grants_wide k s c w h1 h2
    · have hs' : s.size ≤ 65536 := by omega
      have hc' : c.size ≤ 65536 := by omega
      cases hn : natsB s.data.toList with
      | false => exact grants_name k s c w hs' hc' hn
      | true =>
        cases he : c.toList.isEmpty with
        | true =>
          obtain rfl := of_toList (List.isEmpty_iff.1 he)
          exact grants_empty k s w hs' hn
        | false =>
          cases hp : natsB c.data.toList with
          | false => exact grants_part k s c w hs' hc' hn hp he
          | true =>
            cases h42 : (c.toList == [42]) with
            | true =>
              obtain rfl := of_toList (by simpa using h42 : c.toList = [42])
              exact grants_star k s w hs' hn
            | false => exact grants_named k s c w hs' hc' hn hp he h42
  · exact grants_long k s c w hs hcs (by omega)

end Go.Proofs.Qxb6602990a.Leaf
