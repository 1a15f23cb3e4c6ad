import Derived.Test.Qxb6602990aJs
namespace Go.Proofs.Qxb6602990a.Leaf
open Go Go.RowKit Plain Heap
set_option linter.unusedVariables false
set_option linter.unusedSimpArgs false

def tJS : List UInt8 := [36, 74, 83]
def tAPI : List UInt8 := [65, 80, 73]
def tCONSUMER : List UInt8 := [67, 79, 78, 83, 85, 77, 69, 82]
def tDURABLE : List UInt8 := [68, 85, 82, 65, 66, 76, 69]
def tCREATE : List UInt8 := [67, 82, 69, 65, 84, 69]
def tMSG : List UInt8 := [77, 83, 71]
def tNEXT : List UInt8 := [78, 69, 88, 84]
def tACK : List UInt8 := [65, 67, 75]
def tINFO : List UInt8 := [73, 78, 70, 79]
def tSNAPSHOT : List UInt8 := [83, 78, 65, 80, 83, 72, 79, 84]
def tRESTORE : List UInt8 := [82, 69, 83, 84, 79, 82, 69]
def tFC : List UInt8 := [70, 67]
def tDIRECT : List UInt8 := [68, 73, 82, 69, 67, 84]
def tGET : List UInt8 := [71, 69, 84]

def comS (n : List UInt8) : List (List (List UInt8)) :=
  [[tJS, tSNAPSHOT, tRESTORE, n, st], [tJS, tSNAPSHOT, tACK, n, st], [tJS, tFC, n, gt], [tJS, tAPI, tDIRECT, tGET, n], [tJS, tAPI, tDIRECT, tGET, n, gt]]
def anyS (n : List UInt8) : List (List (List UInt8)) :=
  [[tJS, tAPI, tCONSUMER, st, n], [tJS, tAPI, tCONSUMER, st, n, gt], [tJS, tAPI, tCONSUMER, tDURABLE, tCREATE, n, gt], [tJS, tAPI, tCONSUMER, tMSG, tNEXT, n, st], [tJS, tACK, n, gt]] ++ comS n
def oneS (n p : List UInt8) : List (List (List UInt8)) :=
  [[tJS, tAPI, tCONSUMER, tINFO, n, p], [tJS, tAPI, tCONSUMER, tDURABLE, tCREATE, n, p], [tJS, tAPI, tCONSUMER, tMSG, tNEXT, n, p], [tJS, tACK, n, p, gt]] ++ comS n

theorem app_bs (a b : ByteArray) : a ++ b = bs (a.data.toList ++ b.data.toList) := by
  rw [bs_of (a ++ b)]; congr 1

theorem anyV_eq (s c : ByteArray) : anyV s c = (anyS s.data.toList).map (fun x => bs (join x)) := by
  simp only [anyV, anyS, comS, app_bs, data_bs, List.map_append, List.map_cons, List.map_nil, join, tJS, tAPI, tCONSUMER, tDURABLE, tCREATE, tMSG, tNEXT, tACK, tINFO, tSNAPSHOT, tRESTORE, tFC, tDIRECT, tGET, st, gt, List.cons_append, List.nil_append, List.append_assoc]
theorem oneV_eq (s c : ByteArray) : oneV s c = (oneS s.data.toList c.data.toList).map (fun x => bs (join x)) := by
  simp only [oneV, oneS, comS, app_bs, data_bs, List.map_append, List.map_cons, List.map_nil, join, tJS, tAPI, tCONSUMER, tDURABLE, tCREATE, tMSG, tNEXT, tACK, tINFO, tSNAPSHOT, tRESTORE, tFC, tDIRECT, tGET, st, gt, List.cons_append, List.nil_append, List.append_assoc]

/-! ### What covers what -/
theorem m_same {e s : List (List UInt8)} (a : List UInt8) (h : m e s = true) : m (a :: e) (a :: s) = true := by
  unfold m
  by_cases h1 : a = gt
  · rw [if_pos h1]
  · rw [if_neg h1, if_neg h1]
    by_cases h2 : a = st
    · rw [if_pos h2]; exact h
    · rw [if_neg h2, if_neg h2, h]; simp
theorem m_self : ∀ (s : List (List UInt8)), m s s = true
  | [] => rfl
  | a :: s => m_same a (m_self s)
theorem m_star {e s : List (List UInt8)} {t : List UInt8} (ht : t ≠ gt) (h : m e s = true) : m (st :: e) (t :: s) = true := by
  unfold m
  rw [if_neg (by decide), if_neg ht, if_pos rfl]; exact h
theorem m_gt (e s : List (List UInt8)) (t : List UInt8) : m (gt :: e) (t :: s) = true := by
  unfold m; rw [if_pos rfl]

theorem cov_self {L : List (List (List UInt8))} {s : List (List UInt8)} (h : s ∈ L) : cov L.reverse s = true :=
  (cov_iff s _).2 ⟨s, by simpa using h, m_self s⟩
theorem cov_by {L : List (List (List UInt8))} {e s : List (List UInt8)} (h : e ∈ L) (hm : m e s = true) : cov L.reverse s = true :=
  (cov_iff s _).2 ⟨e, by simpa using h, hm⟩
theorem cov_no {L : List (List (List UInt8))} {s : List (List UInt8)} (h : ∀ e ∈ L, m e s = false) : cov L.reverse s = false := by
  cases hc : cov L.reverse s with
  | false => rfl
  | true =>
    obtain ⟨e, he, hm⟩ := (cov_iff s _).1 hc
    rw [h e (by simpa using he)] at hm; cases hm

/-- Every subject that is granted through one consumer is covered by the grant through any. -/
theorem cov_any (n p : List UInt8) (hp : p ≠ gt) : ∀ s ∈ oneS n p, cov (anyS n).reverse s = true := by
  intro s hs
  simp only [oneS, List.cons_append, List.nil_append, List.mem_cons] at hs
  rcases hs with rfl | rfl | rfl | rfl | hs
  · exact cov_by (e := [tJS, tAPI, tCONSUMER, st, n, gt]) (by simp [anyS]) (m_same _ (m_same _ (m_same _ (m_star (by decide) (m_same _ (m_gt _ _ _))))))
  · exact cov_by (e := [tJS, tAPI, tCONSUMER, tDURABLE, tCREATE, n, gt]) (by simp [anyS]) (m_same _ (m_same _ (m_same _ (m_same _ (m_same _ (m_same _ (m_gt _ _ _)))))))
  · exact cov_by (e := [tJS, tAPI, tCONSUMER, tMSG, tNEXT, n, st]) (by simp [anyS]) (m_same _ (m_same _ (m_same _ (m_same _ (m_same _ (m_same _ (m_star hp rfl)))))))
  · exact cov_by (e := [tJS, tACK, n, gt]) (by simp [anyS]) (m_same _ (m_same _ (m_same _ (m_gt _ _ _))))
  · exact cov_self (by simp only [anyS, List.mem_append]; exact Or.inr hs)

theorem cov_one_list (n p : List UInt8) : cov (oneS n p).reverse [tJS, tAPI, tCONSUMER, st, n] = false := by
  refine cov_no fun e he => ?_
  simp only [oneS, comS, List.cons_append, List.nil_append, List.mem_cons, List.not_mem_nil, or_false] at he
  rcases he with rfl | rfl | rfl | rfl | rfl | rfl | rfl | rfl | rfl <;> simp [m, tJS, tAPI, tCONSUMER, tDURABLE, tCREATE, tMSG, tNEXT, tACK, tINFO, tSNAPSHOT, tRESTORE, tFC, tDIRECT, tGET, st, gt]

theorem tok_lit {t : List UInt8} (h : (!t.isEmpty && !t.contains 46) = true) : Tok t := by
  simp at h
  exact ⟨h.1, h.2⟩

theorem len_join_le : ∀ (s : List (List UInt8)) (k : Nat), (∀ t ∈ s, t.length ≤ k) → (join s).length ≤ s.length * (k + 1)
  | [], k, _ => Nat.zero_le _
  | [t], k, h => by have := h t (by simp); simp [join]; omega
  | t :: u :: r, k, h => by
    have h1 := h t (by simp)
    have h2 := len_join_le (u :: r) k (fun x hx => h x (by simp [hx]))
    simp only [join, List.length_append, List.length_cons] at h2 ⊢
    rw [Nat.succ_mul]; omega

/-- A short list of short tokens is a subject. -/
theorem subj_of {s : List (List UInt8)} (h : ∀ t ∈ s, Tok t ∧ t.length ≤ 65536) (hn : s ≠ []) (hl : s.length ≤ 8) : Subj s := by
  refine ⟨fun t ht => (h t ht).1, hn, ?_⟩
  have h1 := len_join_le s 65536 (fun t ht => (h t ht).2)
  have h2 : s.length * (65536 + 1) ≤ 8 * (65536 + 1) := Nat.mul_le_mul_right _ hl
  omega

theorem subj_com {n : List UInt8} (hn : Tok n) (hl : n.length ≤ 65536) : ∀ s ∈ comS n, Subj s := by
  intro s hs
  simp only [comS, List.mem_cons, List.not_mem_nil, or_false] at hs
  rcases hs with rfl | rfl | rfl | rfl | rfl <;> refine subj_of ?_ (by simp) (by simp) <;> intro t ht <;> simp only [List.mem_cons, List.not_mem_nil, or_false] at ht <;>
    (rcases ht with rfl | rfl | rfl | rfl | rfl | rfl <;> first | exact ⟨hn, hl⟩ | exact ⟨tok_lit (by decide), by decide⟩)
theorem subj_any {n : List UInt8} (hn : Tok n) (hl : n.length ≤ 65536) : ∀ s ∈ anyS n, Subj s := by
  intro s hs
  simp only [anyS, List.mem_append] at hs
  rcases hs with hs | hs
  · simp only [List.mem_cons, List.not_mem_nil, or_false] at hs
    rcases hs with rfl | rfl | rfl | rfl | rfl <;> refine subj_of ?_ (by simp) (by simp) <;> intro t ht <;> simp only [List.mem_cons, List.not_mem_nil, or_false] at ht <;>
      (rcases ht with rfl | rfl | rfl | rfl | rfl | rfl | rfl <;> first | exact ⟨hn, hl⟩ | exact ⟨tok_lit (by decide), by decide⟩)
  · exact subj_com hn hl s hs
theorem subj_one {n p : List UInt8} (hn : Tok n) (hl : n.length ≤ 65536) (hp : Tok p) (hlp : p.length ≤ 65536) : ∀ s ∈ oneS n p, Subj s := by
  intro s hs
  simp only [oneS, List.mem_append] at hs
  rcases hs with hs | hs
  · simp only [List.mem_cons, List.not_mem_nil, or_false] at hs
    rcases hs with rfl | rfl | rfl | rfl <;> refine subj_of ?_ (by simp) (by simp) <;> intro t ht <;> simp only [List.mem_cons, List.not_mem_nil, or_false] at ht <;>
      (rcases ht with rfl | rfl | rfl | rfl | rfl | rfl | rfl <;> first | exact ⟨hn, hl⟩ | exact ⟨hp, hlp⟩ | exact ⟨tok_lit (by decide), by decide⟩)
  · exact subj_com hn hl s hs
end Go.Proofs.Qxb6602990a.Leaf
