/-
  THE PLAIN LAW of the subject tree: token lists, what covers what, joins and cuts. No Go in sight.
-/
import Derived.Lib.IndexBytes
namespace Go.Proofs.Qxb6602990a.Plain
open Go
set_option linter.unusedVariables false

/-- A subject's text out of its tokens. -/
def join : List (List UInt8) → List UInt8
  | [] => []
  | [t] => t
  | t :: u :: r => t ++ 46 :: join (u :: r)

/-- A token: not empty, no dot in it. -/
def Tok (t : List UInt8) : Prop := t ≠ [] ∧ (46 : UInt8) ∉ t

theorem join_ne {t : List UInt8} {r : List (List UInt8)} (h : Tok t) : join (t :: r) ≠ [] := by
  cases r with
  | nil => exact h.1
  | cons u r => simp [join]

/-- What IndexByte answers on a subject's text. -/
theorem index_miss : ∀ (t : List UInt8), (46 : UInt8) ∉ t → Lib.indexByte t 46 = -1
  | [], _ => rfl
  | a :: t, h => by
    have h1 : a ≠ 46 := fun e => h (by simp [e])
    have h2 : (46 : UInt8) ∉ t := fun e => h (List.mem_cons_of_mem _ e)
    unfold Lib.indexByte
    rw [show (a == 46) = false from by simpa using h1, index_miss t h2]; rfl
theorem index_hit : ∀ (t x : List UInt8), (46 : UInt8) ∉ t → Lib.indexByte (t ++ 46 :: x) 46 = t.length
  | [], x, _ => rfl
  | a :: t, x, h => by
    have h1 : a ≠ 46 := fun e => h (by simp [e])
    have h2 : (46 : UInt8) ∉ t := fun e => h (List.mem_cons_of_mem _ e)
    rw [List.cons_append]
    unfold Lib.indexByte
    rw [show (a == 46) = false from by simpa using h1, index_hit t x h2]
    simp only [Bool.false_eq_true, if_false, List.length_cons]
    rw [if_neg (by simp)]; omega

/-! ### What covers what -/
def gt : List UInt8 := [62]
def st : List UInt8 := [42]

/-- Does entry e match every subject that s matches? -/
def m : List (List UInt8) → List (List UInt8) → Bool
  | [], [] => true
  | [], _ :: _ => false
  | _ :: _, [] => false
  | a :: e, t :: s => if a = gt then true else if t = gt then false else if a = st then m e s else if t = st then false else decide (a = t) && m e s

/-- What is left of the entries that begin with t. -/
def dv (t : List UInt8) (L : List (List (List UInt8))) : List (List (List UInt8)) :=
  L.filterMap fun l => match l with | [] => none | a :: e => if a = t then some e else none

/-- What the tree's 'covers' answers. -/
def cov : List (List (List UInt8)) → List (List UInt8) → Bool
  | L, [] => decide ([] ∈ L)
  | L, t :: s => if dv gt L ≠ [] then true else if t = gt then false else if (dv st L ≠ [] ∧ cov (dv st L) s = true) then true else if t = st then false else (decide (dv t L ≠ []) && cov (dv t L) s)

theorem mem_dv {t : List UInt8} {L : List (List (List UInt8))} {e : List (List UInt8)} : e ∈ dv t L ↔ t :: e ∈ L := by
  unfold dv
  rw [List.mem_filterMap]
  constructor
  · rintro ⟨l, hl, he⟩
    cases l with
    | nil => simp at he
    | cons a l =>
      simp only at he
      split at he
      · rename_i h; subst h; cases he; exact hl
      · cases he
  · intro h
    exact ⟨_, h, by simp⟩

theorem dv_ne {t : List UInt8} {L : List (List (List UInt8))} : dv t L ≠ [] ↔ ∃ e, t :: e ∈ L := by
  rw [List.ne_nil_iff_exists_cons]
  constructor
  · rintro ⟨e, l, h⟩; exact ⟨e, mem_dv.1 (by rw [h]; simp)⟩
  · rintro ⟨e, h⟩
    have := mem_dv.2 h
    cases hd : dv t L with
    | nil => rw [hd] at this; simp at this
    | cons x l => exact ⟨x, l, rfl⟩

theorem cov_iff : ∀ (s : List (List UInt8)) (L : List (List (List UInt8))), cov L s = true ↔ ∃ e ∈ L, m e s = true
  | [], L => by
    unfold cov
    rw [decide_eq_true_eq]
    constructor
    · intro h; exact ⟨[], h, rfl⟩
    · rintro ⟨e, he, hm⟩
      cases e with
      | nil => exact he
      | cons a e => simp [m] at hm
  | t :: s, L => by
    unfold cov
    by_cases h1 : dv gt L ≠ []
    · rw [if_pos h1]
      obtain ⟨e, he⟩ := dv_ne.1 h1
      exact ⟨fun _ => ⟨_, he, by simp [m]⟩, fun _ => rfl⟩
    · rw [if_neg h1]
      have h1' : ∀ e, gt :: e ∉ L := fun e he => h1 (dv_ne.2 ⟨e, he⟩)
      by_cases h2 : t = gt
      · rw [if_pos h2]
        refine ⟨fun h => by simp at h, ?_⟩
        rintro ⟨e, he, hm⟩
        cases e with
        | nil => simp [m] at hm
        | cons a e =>
          unfold m at hm
          by_cases ha : a = gt
          · subst ha; exact absurd he (h1' e)
          · rw [if_neg ha, if_pos h2] at hm; simp at hm
      · rw [if_neg h2]
        by_cases h3 : dv st L ≠ [] ∧ cov (dv st L) s = true
        · rw [if_pos h3]
          obtain ⟨e, he, hm⟩ := (cov_iff s _).1 h3.2
          refine ⟨fun _ => ⟨st :: e, mem_dv.1 he, ?_⟩, fun _ => rfl⟩
          unfold m
          rw [if_neg (by decide), if_neg h2, if_pos rfl]; exact hm
        · rw [if_neg h3]
          have h3' : ∀ e, st :: e ∈ L → m e s = false := by
            intro e he
            cases hm : m e s with
            | false => rfl
            | true => exact absurd ⟨dv_ne.2 ⟨e, he⟩, (cov_iff s _).2 ⟨e, mem_dv.2 he, hm⟩⟩ h3
          by_cases h4 : t = st
          · rw [if_pos h4]
            refine ⟨fun h => by simp at h, ?_⟩
            rintro ⟨e, he, hm⟩
            cases e with
            | nil => simp [m] at hm
            | cons a e =>
              unfold m at hm
              by_cases ha : a = gt
              · subst ha; exact absurd he (h1' e)
              · rw [if_neg ha, if_neg h2] at hm
                by_cases hb : a = st
                · subst hb; rw [if_pos rfl, h3' e he] at hm; simp at hm
                · rw [if_neg hb, if_pos h4] at hm; simp at hm
          · rw [if_neg h4, Bool.and_eq_true, decide_eq_true_eq, cov_iff s]
            constructor
            · rintro ⟨_, e, he, hm⟩
              refine ⟨t :: e, mem_dv.1 he, ?_⟩
              unfold m
              rw [if_neg h2, if_neg h2, if_neg h4, if_neg h4, hm]; simp
            · rintro ⟨e, he, hm⟩
              cases e with
              | nil => simp [m] at hm
              | cons a e =>
                unfold m at hm
                by_cases ha : a = gt
                · subst ha; exact absurd he (h1' e)
                · rw [if_neg ha, if_neg h2] at hm
                  by_cases hb : a = st
                  · subst hb; rw [if_pos rfl, h3' e he] at hm; simp at hm
                  · rw [if_neg hb, if_neg h4, Bool.and_eq_true, decide_eq_true_eq] at hm
                    obtain ⟨rfl, hm⟩ := hm
                    exact ⟨dv_ne.2 ⟨e, he⟩, e, mem_dv.2 he, hm⟩

/-! ### The entries below a path -/
def dvs : List (List UInt8) → List (List (List UInt8)) → List (List (List UInt8))
  | [], L => L
  | t :: p, L => dvs p (dv t L)

theorem dvs_snoc : ∀ (p : List (List UInt8)) (t : List UInt8) (L : List (List (List UInt8))), dvs (p ++ [t]) L = dv t (dvs p L)
  | [], t, L => rfl
  | a :: p, t, L => dvs_snoc p t (dv a L)
theorem mem_dvs : ∀ {p : List (List UInt8)} {L : List (List (List UInt8))} {e : List (List UInt8)}, e ∈ dvs p L ↔ p ++ e ∈ L
  | [], L, e => Iff.rfl
  | t :: p, L, e => by unfold dvs; rw [mem_dvs, mem_dv]; rfl
theorem dvs_ne {p : List (List UInt8)} {L : List (List (List UInt8))} : dvs p L ≠ [] ↔ ∃ l ∈ L, p <+: l := by
  rw [List.ne_nil_iff_exists_cons]
  constructor
  · rintro ⟨e, l, h⟩
    exact ⟨p ++ e, mem_dvs.1 (by rw [h]; simp), List.prefix_append _ _⟩
  · rintro ⟨l, hl, e, rfl⟩
    have := mem_dvs.2 hl
    cases hd : dvs p L with
    | nil => rw [hd] at this; simp at this
    | cons x l => exact ⟨x, l, rfl⟩

end Go.Proofs.Qxb6602990a.Plain
