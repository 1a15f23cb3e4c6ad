import Derived.Test.Qxb6602990aTop
namespace Go.Proofs.Qxb6602990a.Leaf
open Go Go.RowKit Plain Heap
set_option linter.unusedVariables false
set_option linter.unusedSimpArgs false

def tOne : List UInt8 := [49]

theorem m_cons {e s : List (List UInt8)} {a : List UInt8} (h : a ≠ gt) : m (a :: e) (a :: s) = m e s := by
  rw [m]
  rw [if_neg h, if_neg h]
  by_cases h2 : a = st
  · rw [if_pos h2]
  · rw [if_neg h2, if_neg h2]; simp
theorem m_diff {e s : List (List UInt8)} {a t : List UInt8} (h1 : a ≠ gt) (h2 : a ≠ st) (h3 : a ≠ t) : m (a :: e) (t :: s) = false := by
  unfold m
  rw [if_neg h1]
  by_cases ht : t = gt
  · rw [if_pos ht]
  · rw [if_neg ht, if_neg h2]
    by_cases hs : t = st
    · rw [if_pos hs]
    · rw [if_neg hs]; simp [h3]

section
variable {n p o : List UInt8}
theorem no_info (hn : n ≠ gt) (hp : p ≠ gt) (hp2 : p ≠ st) (ho : p ≠ o) : cov (oneS n p).reverse [tJS, tAPI, tCONSUMER, tINFO, n, o] = false := by
  refine cov_no fun e he => ?_
  simp only [oneS, comS, List.cons_append, List.nil_append, List.mem_cons, List.not_mem_nil, or_false] at he
  rcases he with rfl | rfl | rfl | rfl | rfl | rfl | rfl | rfl | rfl <;>
    first
      | (rw [m_cons (by decide), m_diff (by decide) (by decide) (by decide)])
      | (rw [m_cons (by decide), m_cons (by decide), m_diff (by decide) (by decide) (by decide)])
      | (rw [m_cons (by decide), m_cons (by decide), m_cons (by decide), m_diff (by decide) (by decide) (by decide)])
      | (rw [m_cons (by decide), m_cons (by decide), m_cons hn, m_diff hp hp2 ho])
      | (rw [m_cons (by decide), m_cons (by decide), m_cons (by decide), m_cons (by decide), m_cons hn, m_diff hp hp2 ho])
      | (rw [m_cons (by decide), m_cons (by decide), m_cons (by decide), m_cons (by decide), m_cons (by decide), m_cons hn, m_diff hp hp2 ho])
theorem no_next (hn : n ≠ gt) (hp : p ≠ gt) (hp2 : p ≠ st) (ho : p ≠ o) : cov (oneS n p).reverse [tJS, tAPI, tCONSUMER, tMSG, tNEXT, n, o] = false := by
  refine cov_no fun e he => ?_
  simp only [oneS, comS, List.cons_append, List.nil_append, List.mem_cons, List.not_mem_nil, or_false] at he
  rcases he with rfl | rfl | rfl | rfl | rfl | rfl | rfl | rfl | rfl <;>
    first
      | (rw [m_cons (by decide), m_diff (by decide) (by decide) (by decide)])
      | (rw [m_cons (by decide), m_cons (by decide), m_diff (by decide) (by decide) (by decide)])
      | (rw [m_cons (by decide), m_cons (by decide), m_cons (by decide), m_diff (by decide) (by decide) (by decide)])
      | (rw [m_cons (by decide), m_cons (by decide), m_cons hn, m_diff hp hp2 ho])
      | (rw [m_cons (by decide), m_cons (by decide), m_cons (by decide), m_cons (by decide), m_cons hn, m_diff hp hp2 ho])
      | (rw [m_cons (by decide), m_cons (by decide), m_cons (by decide), m_cons (by decide), m_cons (by decide), m_cons hn, m_diff hp hp2 ho])
theorem no_create (hn : n ≠ gt) (hp : p ≠ gt) (hp2 : p ≠ st) (ho : p ≠ o) : cov (oneS n p).reverse [tJS, tAPI, tCONSUMER, tDURABLE, tCREATE, n, o] = false := by
  refine cov_no fun e he => ?_
  simp only [oneS, comS, List.cons_append, List.nil_append, List.mem_cons, List.not_mem_nil, or_false] at he
  rcases he with rfl | rfl | rfl | rfl | rfl | rfl | rfl | rfl | rfl <;>
    first
      | (rw [m_cons (by decide), m_diff (by decide) (by decide) (by decide)])
      | (rw [m_cons (by decide), m_cons (by decide), m_diff (by decide) (by decide) (by decide)])
      | (rw [m_cons (by decide), m_cons (by decide), m_cons (by decide), m_diff (by decide) (by decide) (by decide)])
      | (rw [m_cons (by decide), m_cons (by decide), m_cons hn, m_diff hp hp2 ho])
      | (rw [m_cons (by decide), m_cons (by decide), m_cons (by decide), m_cons (by decide), m_cons hn, m_diff hp hp2 ho])
      | (rw [m_cons (by decide), m_cons (by decide), m_cons (by decide), m_cons (by decide), m_cons (by decide), m_cons hn, m_diff hp hp2 ho])
theorem no_ack (hn : n ≠ gt) (hp : p ≠ gt) (hp2 : p ≠ st) (ho : p ≠ o) : cov (oneS n p).reverse [tJS, tACK, n, o, tOne] = false := by
  refine cov_no fun e he => ?_
  simp only [oneS, comS, List.cons_append, List.nil_append, List.mem_cons, List.not_mem_nil, or_false] at he
  rcases he with rfl | rfl | rfl | rfl | rfl | rfl | rfl | rfl | rfl <;>
    first
      | (rw [m_cons (by decide), m_diff (by decide) (by decide) (by decide)])
      | (rw [m_cons (by decide), m_cons (by decide), m_diff (by decide) (by decide) (by decide)])
      | (rw [m_cons (by decide), m_cons (by decide), m_cons (by decide), m_diff (by decide) (by decide) (by decide)])
      | (rw [m_cons (by decide), m_cons (by decide), m_cons hn, m_diff hp hp2 ho])
      | (rw [m_cons (by decide), m_cons (by decide), m_cons (by decide), m_cons (by decide), m_cons hn, m_diff hp hp2 ho])
      | (rw [m_cons (by decide), m_cons (by decide), m_cons (by decide), m_cons (by decide), m_cons (by decide), m_cons hn, m_diff hp hp2 ho])
theorem yes_info : cov (oneS n p).reverse [tJS, tAPI, tCONSUMER, tINFO, n, p] = true := cov_self (by simp [oneS])
theorem yes_next : cov (oneS n p).reverse [tJS, tAPI, tCONSUMER, tMSG, tNEXT, n, p] = true := cov_self (by simp [oneS])
theorem yes_ack : cov (oneS n p).reverse [tJS, tACK, n, p, tOne] = true :=
  cov_by (e := [tJS, tACK, n, p, gt]) (by simp [oneS]) (m_same _ (m_same _ (m_same _ (m_same _ (m_gt _ _ _)))))
end

theorem str_INFO (s c : ByteArray) : (⟨#[36, 74, 83, 46, 65, 80, 73, 46, 67, 79, 78, 83, 85, 77, 69, 82, 46, 73, 78, 70, 79, 46]⟩ : ByteArray) ++ s ++ (⟨#[46]⟩ : ByteArray) ++ c = bs (join [tJS, tAPI, tCONSUMER, tINFO, s.data.toList, c.data.toList]) := by
  simp only [app_bs, data_bs, join, tJS, tAPI, tCONSUMER, tDURABLE, tCREATE, tMSG, tNEXT, tACK, tINFO, tOne, List.cons_append, List.nil_append, List.append_assoc]
theorem subj_INFO {n p : List UInt8} (hn : Tok n) (hl : n.length ≤ 65536) (hp : Tok p) (hlp : p.length ≤ 65536) : Subj [tJS, tAPI, tCONSUMER, tINFO, n, p] := by
  refine subj_of ?_ (by simp) (by simp)
  intro t ht
  simp only [List.mem_cons, List.not_mem_nil, or_false] at ht
  rcases ht with rfl | rfl | rfl | rfl | rfl | rfl | rfl <;> first | exact ⟨hn, hl⟩ | exact ⟨hp, hlp⟩ | exact ⟨tok_lit (by decide), by decide⟩
theorem str_NEXT (s c : ByteArray) : (⟨#[36, 74, 83, 46, 65, 80, 73, 46, 67, 79, 78, 83, 85, 77, 69, 82, 46, 77, 83, 71, 46, 78, 69, 88, 84, 46]⟩ : ByteArray) ++ s ++ (⟨#[46]⟩ : ByteArray) ++ c = bs (join [tJS, tAPI, tCONSUMER, tMSG, tNEXT, s.data.toList, c.data.toList]) := by
  simp only [app_bs, data_bs, join, tJS, tAPI, tCONSUMER, tDURABLE, tCREATE, tMSG, tNEXT, tACK, tINFO, tOne, List.cons_append, List.nil_append, List.append_assoc]
theorem subj_NEXT {n p : List UInt8} (hn : Tok n) (hl : n.length ≤ 65536) (hp : Tok p) (hlp : p.length ≤ 65536) : Subj [tJS, tAPI, tCONSUMER, tMSG, tNEXT, n, p] := by
  refine subj_of ?_ (by simp) (by simp)
  intro t ht
  simp only [List.mem_cons, List.not_mem_nil, or_false] at ht
  rcases ht with rfl | rfl | rfl | rfl | rfl | rfl | rfl <;> first | exact ⟨hn, hl⟩ | exact ⟨hp, hlp⟩ | exact ⟨tok_lit (by decide), by decide⟩
theorem str_CREATE (s c : ByteArray) : (⟨#[36, 74, 83, 46, 65, 80, 73, 46, 67, 79, 78, 83, 85, 77, 69, 82, 46, 68, 85, 82, 65, 66, 76, 69, 46, 67, 82, 69, 65, 84, 69, 46]⟩ : ByteArray) ++ s ++ (⟨#[46]⟩ : ByteArray) ++ c = bs (join [tJS, tAPI, tCONSUMER, tDURABLE, tCREATE, s.data.toList, c.data.toList]) := by
  simp only [app_bs, data_bs, join, tJS, tAPI, tCONSUMER, tDURABLE, tCREATE, tMSG, tNEXT, tACK, tINFO, tOne, List.cons_append, List.nil_append, List.append_assoc]
theorem subj_CREATE {n p : List UInt8} (hn : Tok n) (hl : n.length ≤ 65536) (hp : Tok p) (hlp : p.length ≤ 65536) : Subj [tJS, tAPI, tCONSUMER, tDURABLE, tCREATE, n, p] := by
  refine subj_of ?_ (by simp) (by simp)
  intro t ht
  simp only [List.mem_cons, List.not_mem_nil, or_false] at ht
  rcases ht with rfl | rfl | rfl | rfl | rfl | rfl | rfl <;> first | exact ⟨hn, hl⟩ | exact ⟨hp, hlp⟩ | exact ⟨tok_lit (by decide), by decide⟩
theorem str_ACK (s c : ByteArray) : (⟨#[36, 74, 83, 46, 65, 67, 75, 46]⟩ : ByteArray) ++ s ++ (⟨#[46]⟩ : ByteArray) ++ c ++ (⟨#[46, 49]⟩ : ByteArray) = bs (join [tJS, tACK, s.data.toList, c.data.toList, tOne]) := by
  simp only [app_bs, data_bs, join, tJS, tAPI, tCONSUMER, tDURABLE, tCREATE, tMSG, tNEXT, tACK, tINFO, tOne, List.cons_append, List.nil_append, List.append_assoc]
theorem subj_ACK {n p : List UInt8} (hn : Tok n) (hl : n.length ≤ 65536) (hp : Tok p) (hlp : p.length ≤ 65536) : Subj [tJS, tACK, n, p, tOne] := by
  refine subj_of ?_ (by simp) (by simp)
  intro t ht
  simp only [List.mem_cons, List.not_mem_nil, or_false] at ht
  rcases ht with rfl | rfl | rfl | rfl | rfl | rfl | rfl <;> first | exact ⟨hn, hl⟩ | exact ⟨hp, hlp⟩ | exact ⟨tok_lit (by decide), by decide⟩

set_option maxHeartbeats 400000 in
theorem bytes26 (k : Int) (a b c : ByteArray) (w : World) (ha : a.size ≤ maxLen) (hb : b.size ≤ maxLen) (hc : c.size ≤ maxLen) (h : a.size + b.size + c.size ≤ 1048576) :
    Calls Try.prog 26 #[.int .i64 k, .string a, .string b, .string c] w fun e w' => e = .returned (.bool true) ∧ w' = w := by
  unfold maxLen at ha hb hc
  go_enter Try.func26, Try.ntmps26
  go_wp2
  go_ret
  exact ⟨rfl, rfl⟩
set_option maxHeartbeats 400000 in
theorem bytes26_no (k : Int) (a b c : ByteArray) (w : World) (ha : a.size ≤ maxLen) (hb : b.size ≤ maxLen) (hc : c.size ≤ maxLen) (h : 1048576 < a.size + b.size + c.size) :
    Calls Try.prog 26 #[.int .i64 k, .string a, .string b, .string c] w fun e w' => e = .returned (.bool false) ∧ w' = w := by
  unfold maxLen at ha hb hc
  go_enter Try.func26, Try.ntmps26
  go_wp2
  all_goals go_ret
  all_goals exact ⟨rfl, rfl⟩

theorem one_js {w w1 : World} {V : List ByteArray} {S : List (List (List UInt8))} (h1 : JsPost (w.alloc perm) w1 w.heap.size V) (e1 : V = S.map fun x => bs (join x)) :
    ∃ g cap, Pub w1 w.heap.size g cap S ∧ Below w.heap.size w w1 := by
  obtain ⟨g1, cap1, p1, l1, r1⟩ := pub_of h1 e1 (by simp)
  have s1 := r1.size
  simp at s1
  refine ⟨g1, cap1, p1, r1.os, r1.tape, r1.output, by omega, fun b hb => ?_⟩
  rw [r1.block b (by simp; omega) (by simp; omega), Below.heap_alloc _ _ _ hb]

/-- What ZZCovers answers at one string, at every world behind w3. -/
def Asks (w3 : World) (root : Nat) (X : ByteArray) (b : Bool) : Prop := ∀ n, Calls Try.prog 25 #[.pointer (some ⟨root, 0, none⟩), .string X, .bool false] (w3.drewN n) fun e w' => e = .returned (.bool b) ∧ ∃ m, w' = (w3.drewN n).drewN m
theorem asks_of {w3 : World} {B root : Nat} {L : List (List (List UInt8))} {s : List (List UInt8)} {X : ByteArray} {b : Bool} (hT : TreeAt w3 B root L) (hs : Subj s) (hb : cov L s = b) (hX : X = bs (join s)) : Asks w3 root X b := by
  subst hX
  exact fun n => zzcovers_all hs (w3.drewN n) (treeAt_draw hT n) hb
theorem Asks.at0 {w3 : World} {root : Nat} {X : ByteArray} {b : Bool} (h : Asks w3 root X b) : Calls Try.prog 25 #[.pointer (some ⟨root, 0, none⟩), .string X, .bool false] w3 fun e w' => e = .returned (.bool b) ∧ ∃ m, w' = w3.drewN m := h 0

set_option maxHeartbeats 2000000 in
theorem spares_main (k : Int) (s c o : ByteArray) (w : World) (hs : s.size ≤ 65536) (hcs : c.size ≤ 65536) (hos : o.size ≤ 65536) (hn : natsB s.data.toList = true) (hp : natsB c.data.toList = true) (hc2 : (c.toList == [42]) = false) (ho : natsB o.data.toList = true) (hoc : (o.toList == c.toList) = false) :
    Calls Try.prog 7 #[.int .i64 k, .string s, .string c, .string o] w fun e w' => e = .returned (.bool true) ∧ Below w.heap.size w w' := by
  obtain ⟨tn, gn⟩ := nats_tok hn
  obtain ⟨tp, gp⟩ := nats_tok hp
  obtain ⟨to, go⟩ := nats_tok ho
  have ln : s.data.toList.length ≤ 65536 := by rw [← Lib.size_eq]; exact hs
  have lp : c.data.toList.length ≤ 65536 := by rw [← Lib.size_eq]; exact hcs
  have lo : o.data.toList.length ≤ 65536 := by rw [← Lib.size_eq]; exact hos
  have sp : c.data.toList ≠ st := by rw [Lib.toList_data] at hc2; simpa [st] using hc2
  have op : c.data.toList ≠ o.data.toList := by
    rw [Lib.toList_data, Lib.toList_data] at hoc
    intro e; rw [e] at hoc; simp at hoc
  have hce : c.toList.isEmpty = false := by rw [Lib.toList_data]; simpa using tp.1
  have S2 := hide (subj_one tn ln tp lp)
  have ASK : Hid (∀ w3 B root, TreeAt w3 B root (oneS s.data.toList c.data.toList).reverse →
      Asks w3 root ((⟨#[36, 74, 83, 46, 65, 80, 73, 46, 67, 79, 78, 83, 85, 77, 69, 82, 46, 73, 78, 70, 79, 46]⟩ : ByteArray) ++ s ++ (⟨#[46]⟩ : ByteArray) ++ c) true ∧ Asks w3 root ((⟨#[36, 74, 83, 46, 65, 80, 73, 46, 67, 79, 78, 83, 85, 77, 69, 82, 46, 77, 83, 71, 46, 78, 69, 88, 84, 46]⟩ : ByteArray) ++ s ++ (⟨#[46]⟩ : ByteArray) ++ c) true ∧ Asks w3 root ((⟨#[36, 74, 83, 46, 65, 67, 75, 46]⟩ : ByteArray) ++ s ++ (⟨#[46]⟩ : ByteArray) ++ c ++ (⟨#[46, 49]⟩ : ByteArray)) true ∧ Asks w3 root ((⟨#[36, 74, 83, 46, 65, 80, 73, 46, 67, 79, 78, 83, 85, 77, 69, 82, 46, 73, 78, 70, 79, 46]⟩ : ByteArray) ++ s ++ (⟨#[46]⟩ : ByteArray) ++ o) false ∧ Asks w3 root ((⟨#[36, 74, 83, 46, 65, 80, 73, 46, 67, 79, 78, 83, 85, 77, 69, 82, 46, 77, 83, 71, 46, 78, 69, 88, 84, 46]⟩ : ByteArray) ++ s ++ (⟨#[46]⟩ : ByteArray) ++ o) false ∧ Asks w3 root ((⟨#[36, 74, 83, 46, 65, 80, 73, 46, 67, 79, 78, 83, 85, 77, 69, 82, 46, 68, 85, 82, 65, 66, 76, 69, 46, 67, 82, 69, 65, 84, 69, 46]⟩ : ByteArray) ++ s ++ (⟨#[46]⟩ : ByteArray) ++ o) false ∧ Asks w3 root ((⟨#[36, 74, 83, 46, 65, 67, 75, 46]⟩ : ByteArray) ++ s ++ (⟨#[46]⟩ : ByteArray) ++ o ++ (⟨#[46, 49]⟩ : ByteArray)) false) :=
    fun w3 B root hT => ⟨asks_of hT (subj_INFO tn ln tp lp) yes_info (str_INFO s c), asks_of hT (subj_NEXT tn ln tp lp) yes_next (str_NEXT s c), asks_of hT (subj_ACK tn ln tp lp) yes_ack (str_ACK s c),
      asks_of hT (subj_INFO tn ln to lo) (no_info gn gp sp op) (str_INFO s o), asks_of hT (subj_NEXT tn ln to lo) (no_next gn gp sp op) (str_NEXT s o), asks_of hT (subj_CREATE tn ln to lo) (no_create gn gp sp op) (str_CREATE s o), asks_of hT (subj_ACK tn ln to lo) (no_ack gn gp sp op) (str_ACK s o)⟩
  have HN := hide hn
  have HP := hide hp
  have HO := hide ho
  have HCE := hide hce
  clear hn hp ho hce tn tp to ln lp lo gn gp go sp op
  go_enter Try.func7, Try.ntmps7
  go_wp2_with (first | (go_at_call 26; refine (bytes26 _ _ _ _ _ (by unfold maxLen; omega) (by unfold maxLen; omega) (by unfold maxLen; omega) (by omega)).mono ?_; rintro e w' ⟨rfl, hw⟩; subst hw))
  refine (nats_is (unhide HN) _ (by omega)).mono ?_
  rintro e w1 ⟨rfl, hw⟩
  subst hw
  go_wp2_with (fail)
  refine (nats_is (unhide HP) _ (by omega)).mono ?_
  rintro e w1 ⟨rfl, hw⟩
  subst hw
  go_wp2_with (fail)
  refine (nats_is (unhide HO) _ (by omega)).mono ?_
  rintro e w ⟨rfl, hw⟩
  subst hw
  go_wp2_with (fail)
  refine (zzjs_of k s c _ _ (fresh_perm _).1 (fresh_perm _).2.1 (fresh_perm _).2.2 (fun w a b d => js_named k s c _ w hs hcs (unhide HCE) hc2 a b d)).mono ?_
  rintro e w1 ⟨rfl, j1⟩
  obtain ⟨g1, cap1, p1, bel⟩ := one_js j1 (oneV_eq _ _)
  have f1 := p1.1
  rw [len_one] at f1
  have R1 := hide p1.2.1
  have BL := hide bel
  clear p1 bel j1
  go_wp2_with (fail)
  refine (treeOf_len (unhide S2) (len_one _ _) (by omega) _ _ _ (unhide R1)).mono ?_
  rintro e w3 ⟨root, rfl, t3, b3⟩
  obtain ⟨q1, q2, q3, q4, q5, q6, q7⟩ := unhide ASK w3 _ root t3
  have Q1 := hide q1
  have Q2 := hide q2
  have Q3 := hide q3
  have Q4 := hide q4
  have Q5 := hide q5
  have Q6 := hide q6
  have Q7 := hide q7
  have BL3 := hide ((unhide BL).trans (b3.mono (unhide BL).size))
  clear t3 b3 f1 R1 BL q1 q2 q3 q4 q5 q6 q7 ASK S2
  go_wp2_with (fail)
  refine (unhide Q1).at0.mono ?_
  rintro e w4 ⟨rfl, m1, rfl⟩
  go_wp2_with (fail)
  refine (unhide Q2 _).mono ?_
  rintro e w4 ⟨rfl, m2, rfl⟩
  go_wp2_with (fail)
  refine (unhide Q3 _).mono ?_
  rintro e w4 ⟨rfl, m3, rfl⟩
  go_wp2_with (fail)
  refine (unhide Q4 _).mono ?_
  rintro e w4 ⟨rfl, m4, rfl⟩
  go_wp2_with (fail)
  refine (unhide Q5 _).mono ?_
  rintro e w4 ⟨rfl, m5, rfl⟩
  go_wp2_with (fail)
  refine (unhide Q6 _).mono ?_
  rintro e w4 ⟨rfl, m6, rfl⟩
  go_wp2_with (fail)
  refine (unhide Q7 _).mono ?_
  rintro e w4 ⟨rfl, m7, rfl⟩
  go_wp2_with (fail)
  go_ret
  exact ⟨rfl, below_drewN (unhide BL3) _⟩

set_option maxHeartbeats 400000 in
theorem spares_long (k : Int) (s c o : ByteArray) (w : World) (hs : s.size ≤ maxLen) (hcs : c.size ≤ maxLen) (hos : o.size ≤ maxLen) (h : 1048576 < s.size + c.size + o.size) :
    Calls Try.prog 7 #[.int .i64 k, .string s, .string c, .string o] w fun e w' => e = .returned (.bool true) ∧ Below w.heap.size w w' := by
  go_enter Try.func7, Try.ntmps7
  go_wp2_with (first | (go_at_call 26; refine (bytes26_no _ _ _ _ _ hs hcs hos h).mono ?_; rintro e w' ⟨rfl, hw⟩; subst hw))
  go_ret
  exact ⟨rfl, Below.refl _ _⟩
set_option maxHeartbeats 400000 in
theorem spares_wide (k : Int) (s c o : ByteArray) (w : World) (h : s.size + c.size + o.size ≤ 1048576) (h2 : 65536 < s.size ∨ 65536 < c.size ∨ 65536 < o.size) :
    Calls Try.prog 7 #[.int .i64 k, .string s, .string c, .string o] w fun e w' => e = .returned (.bool true) ∧ Below w.heap.size w w' := by
  by_cases h3 : 65536 < s.size
  · clear h2
    go_enter Try.func7, Try.ntmps7
    go_wp2_with (first | (go_at_call 26; refine (bytes26 _ _ _ _ _ (by unfold maxLen; omega) (by unfold maxLen; omega) (by unfold maxLen; omega) h).mono ?_; rintro e w' ⟨rfl, hw⟩; subst hw))
    go_ret
    exact ⟨rfl, Below.refl _ _⟩
  · by_cases h4 : 65536 < c.size
    · clear h2
      go_enter Try.func7, Try.ntmps7
      go_wp2_with (first | (go_at_call 26; refine (bytes26 _ _ _ _ _ (by unfold maxLen; omega) (by unfold maxLen; omega) (by unfold maxLen; omega) h).mono ?_; rintro e w' ⟨rfl, hw⟩; subst hw))
      go_ret
      exact ⟨rfl, Below.refl _ _⟩
    · have h5 : 65536 < o.size := by omega
      clear h2
      go_enter Try.func7, Try.ntmps7
      go_wp2_with (first | (go_at_call 26; refine (bytes26 _ _ _ _ _ (by unfold maxLen; omega) (by unfold maxLen; omega) (by unfold maxLen; omega) h).mono ?_; rintro e w' ⟨rfl, hw⟩; subst hw))
      go_ret
      exact ⟨rfl, Below.refl _ _⟩
set_option maxHeartbeats 400000 in
theorem spares_e1 (k : Int) (s c o : ByteArray) (w : World) (hs : s.size ≤ 65536) (hcs : c.size ≤ 65536) (hos : o.size ≤ 65536) (hn : natsB s.data.toList = false) :
    Calls Try.prog 7 #[.int .i64 k, .string s, .string c, .string o] w fun e w' => e = .returned (.bool true) ∧ Below w.heap.size w w' := by
  have HNX := hide hn
  clear hn
  go_enter Try.func7, Try.ntmps7
  go_wp2_with (first | (go_at_call 26; refine (bytes26 _ _ _ _ _ (by unfold maxLen; omega) (by unfold maxLen; omega) (by unfold maxLen; omega) (by omega)).mono ?_; rintro e w' ⟨rfl, hw⟩; subst hw))
  refine (nats_is (unhide HNX) _ (by omega)).mono ?_
  rintro e w1 ⟨rfl, hw⟩
  subst hw
  go_wp2_with (fail)
  go_ret
  exact ⟨rfl, Below.refl _ _⟩
set_option maxHeartbeats 400000 in
theorem spares_e2 (k : Int) (s c o : ByteArray) (w : World) (hs : s.size ≤ 65536) (hcs : c.size ≤ 65536) (hos : o.size ≤ 65536) (hn : natsB s.data.toList = true) (hp : natsB c.data.toList = false) :
    Calls Try.prog 7 #[.int .i64 k, .string s, .string c, .string o] w fun e w' => e = .returned (.bool true) ∧ Below w.heap.size w w' := by
  have HNX := hide hn
  have HPX := hide hp
  clear hn hp
  go_enter Try.func7, Try.ntmps7
  go_wp2_with (first | (go_at_call 26; refine (bytes26 _ _ _ _ _ (by unfold maxLen; omega) (by unfold maxLen; omega) (by unfold maxLen; omega) (by omega)).mono ?_; rintro e w' ⟨rfl, hw⟩; subst hw))
  refine (nats_is (unhide HNX) _ (by omega)).mono ?_
  rintro e w1 ⟨rfl, hw⟩
  subst hw
  go_wp2_with (fail)
  refine (nats_is (unhide HPX) _ (by omega)).mono ?_
  rintro e w1 ⟨rfl, hw⟩
  subst hw
  go_wp2_with (fail)
  go_ret
  exact ⟨rfl, Below.refl _ _⟩
set_option maxHeartbeats 400000 in
theorem spares_e3 (k : Int) (s c o : ByteArray) (w : World) (hs : s.size ≤ 65536) (hcs : c.size ≤ 65536) (hos : o.size ≤ 65536) (hn : natsB s.data.toList = true) (hp : natsB c.data.toList = true) (hc2 : (c.toList == [42]) = true) :
    Calls Try.prog 7 #[.int .i64 k, .string s, .string c, .string o] w fun e w' => e = .returned (.bool true) ∧ Below w.heap.size w w' := by
  have HNX := hide hn
  have HPX := hide hp
  clear hn hp
  go_enter Try.func7, Try.ntmps7
  go_wp2_with (first | (go_at_call 26; refine (bytes26 _ _ _ _ _ (by unfold maxLen; omega) (by unfold maxLen; omega) (by unfold maxLen; omega) (by omega)).mono ?_; rintro e w' ⟨rfl, hw⟩; subst hw))
  refine (nats_is (unhide HNX) _ (by omega)).mono ?_
  rintro e w1 ⟨rfl, hw⟩
  subst hw
  go_wp2_with (fail)
  refine (nats_is (unhide HPX) _ (by omega)).mono ?_
  rintro e w1 ⟨rfl, hw⟩
  subst hw
  go_wp2_with (fail)
  go_ret
  exact ⟨rfl, Below.refl _ _⟩
set_option maxHeartbeats 400000 in
theorem spares_e4 (k : Int) (s c o : ByteArray) (w : World) (hs : s.size ≤ 65536) (hcs : c.size ≤ 65536) (hos : o.size ≤ 65536) (hn : natsB s.data.toList = true) (hp : natsB c.data.toList = true) (hc2 : (c.toList == [42]) = false) (ho : natsB o.data.toList = false) :
    Calls Try.prog 7 #[.int .i64 k, .string s, .string c, .string o] w fun e w' => e = .returned (.bool true) ∧ Below w.heap.size w w' := by
  have HNX := hide hn
  have HPX := hide hp
  have HOX := hide ho
  clear hn hp ho
  go_enter Try.func7, Try.ntmps7
  go_wp2_with (first | (go_at_call 26; refine (bytes26 _ _ _ _ _ (by unfold maxLen; omega) (by unfold maxLen; omega) (by unfold maxLen; omega) (by omega)).mono ?_; rintro e w' ⟨rfl, hw⟩; subst hw))
  refine (nats_is (unhide HNX) _ (by omega)).mono ?_
  rintro e w1 ⟨rfl, hw⟩
  subst hw
  go_wp2_with (fail)
  refine (nats_is (unhide HPX) _ (by omega)).mono ?_
  rintro e w1 ⟨rfl, hw⟩
  subst hw
  go_wp2_with (fail)
  refine (nats_is (unhide HOX) _ (by omega)).mono ?_
  rintro e w1 ⟨rfl, hw⟩
  subst hw
  go_wp2_with (fail)
  go_ret
  exact ⟨rfl, Below.refl _ _⟩
set_option maxHeartbeats 400000 in
theorem spares_e5 (k : Int) (s c o : ByteArray) (w : World) (hs : s.size ≤ 65536) (hcs : c.size ≤ 65536) (hos : o.size ≤ 65536) (hn : natsB s.data.toList = true) (hp : natsB c.data.toList = true) (hc2 : (c.toList == [42]) = false) (ho : natsB o.data.toList = true) (hoc : (o.toList == c.toList) = true) :
    Calls Try.prog 7 #[.int .i64 k, .string s, .string c, .string o] w fun e w' => e = .returned (.bool true) ∧ Below w.heap.size w w' := by
  have HNX := hide hn
  have HPX := hide hp
  have HOX := hide ho
  clear hn hp ho
  go_enter Try.func7, Try.ntmps7
  go_wp2_with (first | (go_at_call 26; refine (bytes26 _ _ _ _ _ (by unfold maxLen; omega) (by unfold maxLen; omega) (by unfold maxLen; omega) (by omega)).mono ?_; rintro e w' ⟨rfl, hw⟩; subst hw))
  refine (nats_is (unhide HNX) _ (by omega)).mono ?_
  rintro e w1 ⟨rfl, hw⟩
  subst hw
  go_wp2_with (fail)
  refine (nats_is (unhide HPX) _ (by omega)).mono ?_
  rintro e w1 ⟨rfl, hw⟩
  subst hw
  go_wp2_with (fail)
  refine (nats_is (unhide HOX) _ (by omega)).mono ?_
  rintro e w1 ⟨rfl, hw⟩
  subst hw
  go_wp2_with (fail)
  go_ret
  exact ⟨rfl, Below.refl _ _⟩

theorem spares_all (k : Int) (s c o : ByteArray) (w : World) (hs : s.size ≤ maxLen) (hcs : c.size ≤ maxLen) (hos : o.size ≤ maxLen) :
    Calls Try.prog 7 #[.int .i64 k, .string s, .string c, .string o] w fun e w' => e = .returned (.bool true) ∧ Below w.heap.size w w' := by
  by_cases h1 : s.size + c.size + o.size ≤ 1048576
  · by_cases h2 : 65536 < s.size ∨ 65536 < c.size ∨ 65536 < o.size
    · exact spares_wide k s c o w h1 h2
    · have hs' : s.size ≤ 65536 := by omega
      have hc' : c.size ≤ 65536 := by omega
      have ho' : o.size ≤ 65536 := by omega
      cases hn : natsB s.data.toList with
      | false => exact spares_e1 k s c o w hs' hc' ho' hn
      | true =>
        cases hp : natsB c.data.toList with
        | false => exact spares_e2 k s c o w hs' hc' ho' hn hp
        | true =>
          cases h42 : (c.toList == [42]) with
          | true => exact spares_e3 k s c o w hs' hc' ho' hn hp h42
          | false =>
            cases ho : natsB o.data.toList with
            | false => exact spares_e4 k s c o w hs' hc' ho' hn hp h42 ho
            | true =>
              cases hoc : (o.toList == c.toList) with
              | true => exact spares_e5 k s c o w hs' hc' ho' hn hp h42 ho hoc
              | false => exact spares_main k s c o w hs' hc' ho' hn hp h42 ho hoc
  · exact spares_long k s c o w hs hcs hos (by omega)

end Go.Proofs.Qxb6602990a.Leaf
