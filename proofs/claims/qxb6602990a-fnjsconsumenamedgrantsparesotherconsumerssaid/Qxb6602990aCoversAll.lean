import Derived.Test.Qxb6602990aCovers
namespace Go.Proofs.Qxb6602990a.Leaf
open Go Go.RowKit Plain Heap
set_option linter.unusedVariables false

/-- THE TREE's NODES ARE THE PATHS INTO L, ITS MARKS L's OWN ENTRIES. -/
def Spec (nd : List (List UInt8) → Option Nat) (en : List (List UInt8) → Bool) (L : List (List (List UInt8))) : Prop :=
  (∀ p, p ≠ [] → ((nd p).isSome = true ↔ dvs p L ≠ [])) ∧ ∀ p, (en p = true ↔ p ∈ L)

theorem looks_of {W : World} {B root : Nat} {nd mp : List (List UInt8) → Option Nat} {en : List (List UInt8) → Bool} (h : Inv W B root nd mp en) (p : List (List UInt8)) (u : List UInt8) :
    Looks W (mp p) (bs u) (nd (p ++ [u])) := by
  intro n
  cases hm : mp p with
  | none =>
    rw [run_look_nil, h.nomap p hm u]; rfl
  | some r =>
    have := (h.maps p r hm).2
    exact run_look (this.of_block (w' := W.drewN n) rfl) u

theorem cell_of {W : World} {B root : Nat} {nd mp : List (List UInt8) → Option Nat} {en : List (List UInt8) → Bool} (h : Inv W B root nd mp en) {p : List (List UInt8)} {b : Nat} (hp : nd p = some b) :
    W.cell? ⟨b, 0, none⟩ = some (.map (mp p)) ∧ W.cell? ⟨b, 1, none⟩ = some (.bool (en p)) := by
  have hb := (h.node p b hp).2
  unfold World.cell?
  rw [hb]
  exact ⟨rfl, rfl⟩

theorem inv_draw {W : World} {B root : Nat} {nd mp : List (List UInt8) → Option Nat} {en : List (List UInt8) → Bool} (h : Inv W B root nd mp en) (n : Nat) : Inv (W.drewN n) B root nd mp en :=
  h.kept fun _ _ _ => rfl

theorem join_tail_le (t : List UInt8) (r : List (List UInt8)) : (join r).length ≤ (join (t :: r)).length := by
  cases r with
  | nil => simp [join]
  | cons u r => simp [join]; omega

theorem lit_eq {t u : List UInt8} {b : Bool} (h : decide (t = u) = b) : ((bs t).toList == u) = b := by
  rw [Lib.toList_data]
  show (t == u) = b
  rw [← h, Bool.eq_iff_iff]; simp

theorem covers_all {B root : Nat} {nd mp : List (List UInt8) → Option Nat} {en : List (List UInt8) → Bool} {L : List (List (List UInt8))} (hS : Spec nd en L) :
    ∀ (r : List (List UInt8)), (∀ t ∈ r, Tok t) → (join r).length ≤ 2097152 → ∀ (p : List (List UInt8)) (b : Nat) (W : World), Inv W B root nd mp en → nd p = some b →
      Calls Try.prog 41 #[.pointer (some ⟨b, 0, none⟩), .string (bs (join r)), .bool false] W fun e w' => e = .returned (.bool (cov (dvs p L) r)) ∧ ∃ n, w' = W.drewN n
  | [], _, _, p, b, W, hI, hp => by
    have h := covers_nil b (en p) W (cell_of hI hp).2
    have e : cov (dvs p L) [] = en p := by
      unfold cov
      rw [Bool.eq_iff_iff, decide_eq_true_eq, mem_dvs, List.append_nil, hS.2 p]
    rw [e]; exact h
  | t :: r, hT, hlen, p, b, W, hI, hp => by
    have hTt : Tok t := hT t (by simp)
    have hTr : ∀ u ∈ r, Tok u := fun u hu => hT u (by simp [hu])
    have hlr : (join r).length ≤ 2097152 := Nat.le_trans (join_tail_le t r) hlen
    have hx : (bs (join (t :: r))).toList.isEmpty = false := by
      rw [Lib.toList_data, data_bs]
      have := join_ne (r := r) hTt
      simpa using this
    have hc := (cell_of hI hp).1
    have hcut : Cuts (bs (join (t :: r))) (bs t) (bs (join r)) (!r.isEmpty) := fun w => cut_is hTt w hlen
    have kid : ∀ u c, nd (p ++ [u]) = some c → ∀ n, Calls Try.prog 41 #[.pointer (some ⟨c, 0, none⟩), .string (bs (join r)), .bool false] (W.drewN n) fun e w' => e = .returned (.bool (cov (dv u (dvs p L)) r)) ∧ ∃ m, w' = (W.drewN n).drewN m := by
      intro u c hu n
      have := covers_all hS r hTr hlr (p ++ [u]) c (W.drewN n) (inv_draw hI n) hu
      rw [dvs_snoc] at this
      exact this
    have has : ∀ u, (∃ c, nd (p ++ [u]) = some c) ↔ dv u (dvs p L) ≠ [] := by
      intro u
      rw [← dvs_snoc, ← hS.1 (p ++ [u]) (by simp)]
      exact Option.isSome_iff_exists.symm
    have hasn : ∀ u, nd (p ++ [u]) = none → ¬ dv u (dvs p L) ≠ [] := by
      intro u hu h
      obtain ⟨c, hc⟩ := (has u).2 h
      rw [hu] at hc; cases hc
    have lg := looks_of hI p gt
    have ls := looks_of hI p st
    have lt := looks_of hI p t
    unfold cov
    cases hg : nd (p ++ [gt]) with
    | some c =>
      rw [hg] at lg
      rw [if_pos ((has gt).1 ⟨c, hg⟩)]
      exact covers_A b (mp p) _ W c hx hc lg
    | none =>
      rw [hg] at lg
      rw [if_neg (hasn gt hg)]
      by_cases ht : t = gt
      · rw [if_pos ht]
        exact covers_B b (mp p) _ _ _ _ W hx hc lg hcut (lit_eq (t := t) (u := gt) (by simpa using ht))
      · have hy : ((bs t).toList == gt) = false := lit_eq (by simpa using ht)
        rw [if_neg ht]
        cases hs : nd (p ++ [st]) with
        | some c =>
          rw [hs] at ls
          have hne := (has st).1 ⟨c, hs⟩
          have is := kid st c hs
          cases hr : cov (dv st (dvs p L)) r with
          | true =>
            rw [hr] at is
            rw [if_pos ⟨hne, rfl⟩]
            exact covers_C b (mp p) _ _ _ _ W c hx hc lg hcut hy ls is
          | false =>
            rw [hr] at is
            rw [if_neg (by simp)]
            by_cases ht2 : t = st
            · rw [if_pos ht2]
              exact covers_D b (mp p) _ _ _ _ W c hx hc lg hcut hy ls is (lit_eq (t := t) (u := st) (by simpa using ht2))
            · have hy2 : ((bs t).toList == st) = false := lit_eq (by simpa using ht2)
              rw [if_neg ht2]
              cases hk : nd (p ++ [t]) with
              | none =>
                rw [hk] at lt
                rw [show decide (dv t (dvs p L) ≠ []) = false from by simpa using hasn t hk, Bool.false_and]
                exact covers_E b (mp p) _ _ _ _ W c hx hc lg hcut hy ls is hy2 lt
              | some d =>
                rw [hk] at lt
                rw [show decide (dv t (dvs p L) ≠ []) = true from by simpa using (has t).1 ⟨d, hk⟩, Bool.true_and]
                exact covers_F b (mp p) _ _ _ _ W c d _ hx hc lg hcut hy ls is hy2 lt (kid t d hk)
        | none =>
          rw [hs] at ls
          rw [if_neg (fun h => hasn st hs h.1)]
          by_cases ht2 : t = st
          · rw [if_pos ht2]
            exact covers_G b (mp p) _ _ _ _ W hx hc lg hcut hy ls (lit_eq (t := t) (u := st) (by simpa using ht2))
          · have hy2 : ((bs t).toList == st) = false := lit_eq (by simpa using ht2)
            rw [if_neg ht2]
            cases hk : nd (p ++ [t]) with
            | none =>
              rw [hk] at lt
              rw [show decide (dv t (dvs p L) ≠ []) = false from by simpa using hasn t hk, Bool.false_and]
              exact covers_H b (mp p) _ _ _ _ W hx hc lg hcut hy ls hy2 lt
            | some d =>
              rw [hk] at lt
              rw [show decide (dv t (dvs p L) ≠ []) = true from by simpa using (has t).1 ⟨d, hk⟩, Bool.true_and]
              exact covers_I b (mp p) _ _ _ _ W d _ hx hc lg hcut hy ls hy2 lt (kid t d hk)
end Go.Proofs.Qxb6602990a.Leaf
