/-
  THE PLAIN LAW of the end of a string: the forward scan, the count of backslashes before a quote. No Go in sight.
-/
import Derived.Lib.IndexLaws
namespace Go.Proofs.Qxb6604007a.Plain
open Go
set_option linter.unusedVariables false

/-- The forward scan over the bytes B 0 .. B (n - 1), from place p, f turns left. -/
def mdlF (n : Nat) (B : Nat → UInt8) : Nat → Nat → Int
  | 0, _ => -1
  | f + 1, p => if p < n then (if B p = 34 then (p : Int) + 1 else if B p = 92 then mdlF n B f (p + 2) else mdlF n B f (p + 1)) else -1
def mdl (n : Nat) (B : Nat → UInt8) (p : Nat) : Int := mdlF n B (n - p) p

theorem mdlF_past (n : Nat) (B : Nat → UInt8) (f p : Nat) (h : n ≤ p) : mdlF n B f p = -1 := by
  cases f with
  | zero => rfl
  | succ f => unfold mdlF; rw [if_neg (by omega)]
theorem mdlF_fuel (n : Nat) (B : Nat → UInt8) : ∀ (f g p : Nat), n - p ≤ f → n - p ≤ g → mdlF n B f p = mdlF n B g p
  | 0, g, p, hf, _ => by rw [mdlF_past n B g p (by omega)]; rfl
  | f + 1, 0, p, _, hg => by rw [mdlF_past n B (f + 1) p (by omega)]; rfl
  | f + 1, g + 1, p, hf, hg => by
    unfold mdlF
    rw [mdlF_fuel n B f g (p + 2) (by omega) (by omega), mdlF_fuel n B f g (p + 1) (by omega) (by omega)]
theorem mdl_past (n : Nat) (B : Nat → UInt8) (p : Nat) (h : n ≤ p) : mdl n B p = -1 := mdlF_past n B _ p h
theorem mdl_eq (n : Nat) (B : Nat → UInt8) (p : Nat) (h : p < n) : mdl n B p = if B p = 34 then (p : Int) + 1 else if B p = 92 then mdl n B (p + 2) else mdl n B (p + 1) := by
  have e : mdl n B p = mdlF n B ((n - (p + 1)) + 1) p := by unfold mdl; exact mdlF_fuel n B _ _ p (by omega) (by omega)
  rw [e, mdlF, if_pos h, mdlF_fuel n B (n - (p + 1)) (n - (p + 2)) (p + 2) (by omega) (by omega)]
  rfl
theorem mdl_quote {n : Nat} {B : Nat → UInt8} {p : Nat} (h : p < n) (h1 : B p = 34) : mdl n B p = (p : Int) + 1 := by rw [mdl_eq n B p h, if_pos h1]
theorem mdl_esc {n : Nat} {B : Nat → UInt8} {p : Nat} (h : p < n) (h1 : B p = 92) : mdl n B p = mdl n B (p + 2) := by rw [mdl_eq n B p h, if_neg (by rw [h1]; decide), if_pos h1]
theorem mdl_plain {n : Nat} {B : Nat → UInt8} {p : Nat} (h : p < n) (h1 : B p ≠ 34) (h2 : B p ≠ 92) : mdl n B p = mdl n B (p + 1) := by rw [mdl_eq n B p h, if_neg h1, if_neg h2]

/-- No quote from p on: no end. -/
theorem mdl_none (n : Nat) (B : Nat → UInt8) : ∀ (f p : Nat), n - p ≤ f → (∀ i, p ≤ i → i < n → B i ≠ 34) → mdl n B p = -1
  | 0, p, hf, _ => mdl_past n B p (by omega)
  | f + 1, p, hf, hno => by
    by_cases h : p < n
    · by_cases h1 : B p = 92
      · rw [mdl_esc h h1]; exact mdl_none n B f (p + 2) (by omega) fun i h1 h2 => hno i (by omega) h2
      · rw [mdl_plain h (hno p (Nat.le_refl _) h) h1]; exact mdl_none n B f (p + 1) (by omega) fun i h1 h2 => hno i (by omega) h2
    · exact mdl_past n B p (by omega)

/-- How many backslashes stand in a row just before place m. -/
def sl (B : Nat → UInt8) : Nat → Nat
  | 0 => 0
  | m + 1 => if B m = 92 then sl B m + 1 else 0
theorem sl_yes {B : Nat → UInt8} {m : Nat} (h : B m = 92) : sl B (m + 1) = sl B m + 1 := by rw [sl, if_pos h]
theorem sl_no {B : Nat → UInt8} {m : Nat} (h : B m ≠ 92) : sl B (m + 1) = 0 := by rw [sl, if_neg h]
theorem sl_le (B : Nat → UInt8) : ∀ m, sl B m ≤ m
  | 0 => Nat.le_refl _
  | m + 1 => by
    by_cases h : B m = 92
    · rw [sl_yes h]; have := sl_le B m; omega
    · rw [sl_no h]; omega
/-- A byte that is no backslash bounds the count. -/
theorem sl_bound {B : Nat → UInt8} {k : Nat} (h : B k ≠ 92) : ∀ m, k < m → sl B m ≤ m - (k + 1)
  | 0, hm => by omega
  | m + 1, hm => by
    by_cases e : k = m
    · subst e; rw [sl_no h]; omega
    · by_cases h1 : B m = 92
      · rw [sl_yes h1]; have := sl_bound h m (by omega); omega
      · rw [sl_no h1]; omega
/-- .. and a backslash lengthens it. -/
theorem sl_more {B : Nat → UInt8} {k : Nat} (h : B k = 92) : ∀ m, k < m → sl B m ≠ m - (k + 1)
  | 0, hm => by omega
  | m + 1, hm => by
    by_cases e : k = m
    · subst e; rw [sl_yes h]; omega
    · by_cases h1 : B m = 92
      · rw [sl_yes h1]; have := sl_more h m (by omega); omega
      · rw [sl_no h1]; omega

/-- From p on to the first quote q: the scan stops there, or passes it, by the count's parity. -/
theorem mdl_step (n : Nat) (B : Nat → UInt8) (q : Nat) (hq : q < n) (h34 : B q = 34) : ∀ (f p : Nat), q - p ≤ f → p ≤ q → (∀ i, p ≤ i → i < q → B i ≠ 34) →
    mdl n B p = if (min (sl B q) (q - p)) % 2 = 0 then (q : Int) + 1 else mdl n B (q + 1)
  | 0, p, hf, hp, _ => by
    have : p = q := by omega
    subst this
    rw [Nat.sub_self, Nat.min_zero, if_pos rfl, mdl_quote hq h34]
  | f + 1, p, hf, hp, hno => by
    by_cases e : p = q
    · subst e
      rw [Nat.sub_self, Nat.min_zero, if_pos rfl, mdl_quote hq h34]
    · by_cases h92 : B p = 92
      · rw [mdl_esc (by omega) h92]
        have hm := sl_more h92 q (by omega)
        by_cases e2 : p + 1 = q
        · have : min (sl B q) (q - p) = 1 := by omega
          rw [this, if_neg (by decide), show p + 2 = q + 1 from by omega]
        · rw [mdl_step n B q hq h34 f (p + 2) (by omega) (by omega) fun i h1 h2 => hno i (by omega) h2]
          have : (min (sl B q) (q - p)) % 2 = (min (sl B q) (q - (p + 2))) % 2 := by omega
          rw [this]
      · rw [mdl_plain (by omega) (hno p (Nat.le_refl _) (by omega)) h92, mdl_step n B q hq h34 f (p + 1) (by omega) (by omega) fun i h1 h2 => hno i (by omega) h2]
        have := sl_bound h92 q (by omega)
        rw [show min (sl B q) (q - (p + 1)) = min (sl B q) (q - p) from by omega]

/-- The same where the byte ahead of p is no backslash: the whole count serves. -/
theorem mdl_turn {n : Nat} {B : Nat → UInt8} {p q : Nat} (hq : q < n) (h34 : B q = 34) (hp : p ≤ q) (h1 : 1 ≤ p) (hb : B (p - 1) ≠ 92) (hno : ∀ i, p ≤ i → i < q → B i ≠ 34) :
    mdl n B p = if sl B q % 2 = 0 then (q : Int) + 1 else mdl n B (q + 1) := by
  have := sl_bound hb q (by omega)
  rw [mdl_step n B q hq h34 _ p (Nat.le_refl _) hp hno, show min (sl B q) (q - p) = sl B q from by omega]

/-! ### What the scan's answer depends on -/
theorem mdl_range (n : Nat) (B : Nat → UInt8) : ∀ (f p : Nat), n - p ≤ f → mdl n B p = -1 ∨ ∃ r : Nat, mdl n B p = (r : Int) ∧ p + 1 ≤ r ∧ r ≤ n ∧ B (r - 1) = 34
  | 0, p, hf => Or.inl (mdl_past n B p (by omega))
  | f + 1, p, hf => by
    by_cases h : p < n
    · by_cases h1 : B p = 34
      · exact Or.inr ⟨p + 1, by rw [mdl_quote h h1]; rfl, Nat.le_refl _, h, h1⟩
      · by_cases h2 : B p = 92
        · rw [mdl_esc h h2]
          rcases mdl_range n B f (p + 2) (by omega) with e | ⟨r, e1, e2, e3, e4⟩
          · exact Or.inl e
          · exact Or.inr ⟨r, e1, by omega, e3, e4⟩
        · rw [mdl_plain h h1 h2]
          rcases mdl_range n B f (p + 1) (by omega) with e | ⟨r, e1, e2, e3, e4⟩
          · exact Or.inl e
          · exact Or.inr ⟨r, e1, by omega, e3, e4⟩
    · exact Or.inl (mdl_past n B p (by omega))

theorem mdl_same (n n' : Nat) (B B' : Nat → UInt8) (r : Nat) (hr : r ≤ n') (hag : ∀ i, i < r → B' i = B i) : ∀ (f p : Nat), n - p ≤ f → mdl n B p = (r : Int) → mdl n' B' p = (r : Int)
  | 0, p, hf, h => by rw [mdl_past n B p (by omega)] at h; omega
  | f + 1, p, hf, h => by
    by_cases hp : p < n
    · have hpr : p + 1 ≤ r := by
        rcases mdl_range n B _ p (Nat.le_refl _) with e | ⟨r', e1, e2, e3, e4⟩
        · omega
        · omega
      by_cases h1 : B p = 34
      · rw [mdl_quote hp h1] at h
        rw [mdl_quote (by omega) (by rw [hag p (by omega), h1])]
        exact h
      · by_cases h2 : B p = 92
        · rw [mdl_esc hp h2] at h
          rw [mdl_esc (by omega) (by rw [hag p (by omega), h2])]
          exact mdl_same n n' B B' r hr hag f (p + 2) (by omega) h
        · rw [mdl_plain hp h1 h2] at h
          rw [mdl_plain (by omega) (by rw [hag p (by omega)]; exact h1) (by rw [hag p (by omega)]; exact h2)]
          exact mdl_same n n' B B' r hr hag f (p + 1) (by omega) h
    · rw [mdl_past n B p (by omega)] at h; omega

theorem mdl_cut {n : Nat} {B : Nat → UInt8} {p r : Nat} (hr : r ≤ n) (h : mdl n B p = (r : Int)) : mdl r B p = (r : Int) :=
  mdl_same n r B B r (Nat.le_refl _) (fun _ _ => rfl) _ p (Nat.le_refl _) h
theorem mdl_cut1 {n : Nat} {B : Nat → UInt8} {p r : Nat} (hr : r ≤ n) (h1 : 1 ≤ r) (h : mdl n B p = (r : Int)) : mdl (r - 1) B p = -1 := by
  rcases mdl_range (r - 1) B _ p (Nat.le_refl _) with e | ⟨r', e1, e2, e3, e4⟩
  · exact e
  · have := mdl_same (r - 1) n B B r' (by omega) (fun _ _ => rfl) _ p (Nat.le_refl _) e1
    omega
theorem mdl_longer {n n' : Nat} {B B' : Nat → UInt8} {p : Nat} (hn : n ≤ n') (hag : ∀ i, i < n → B' i = B i) (h : mdl n B p = -1) : mdl n' B' p = -1 ∨ (n : Int) < mdl n' B' p := by
  rcases mdl_range n' B' _ p (Nat.le_refl _) with e | ⟨r', e1, e2, e3, e4⟩
  · exact Or.inl e
  · by_cases hle : r' ≤ n
    · have := mdl_same n' n B' B r' hle (fun i hi => (hag i (by omega)).symm) _ p (Nat.le_refl _) e1
      omega
    · right; omega

/-! ### The first quote, as bytes.IndexByte tells it -/
theorem first_none {B : Nat → UInt8} {j m : Nat} (h : Lib.indexByte ((List.range m).map fun i => B (j + i)) 34 = -1) : ∀ i, j ≤ i → i < j + m → B i ≠ 34 := by
  intro i h1 h2 e
  refine Lib.indexByte_none h (i - j) ?_
  rw [List.getElem?_map, List.getElem?_range (by omega)]
  simp only [Option.map_some]
  rw [show j + (i - j) = i from by omega, e]
theorem first_some {B : Nat → UInt8} {j m o : Nat} (h : Lib.indexByte ((List.range m).map fun i => B (j + i)) 34 = (o : Int)) : o < m ∧ B (j + o) = 34 ∧ ∀ i, j ≤ i → i < j + o → B i ≠ 34 := by
  obtain ⟨h1, h2⟩ := Lib.indexByte_some h
  have ho : o < m := by
    by_cases e : o < m
    · exact e
    · rw [List.getElem?_eq_none (by simp; omega)] at h1; cases h1
  rw [List.getElem?_map, List.getElem?_range ho] at h1
  simp only [Option.map_some, Option.some.injEq] at h1
  refine ⟨ho, h1, fun i hi hl e => ?_⟩
  refine h2 (i - j) (by omega) ?_
  rw [List.getElem?_map, List.getElem?_range (by omega)]
  simp only [Option.map_some]
  rw [show j + (i - j) = i from by omega, e]
theorem first_cases (B : Nat → UInt8) (j m : Nat) : Lib.indexByte ((List.range m).map fun i => B (j + i)) 34 = -1 ∨ ∃ o : Nat, Lib.indexByte ((List.range m).map fun i => B (j + i)) 34 = (o : Int) := by
  have := Lib.indexByte_ge ((List.range m).map fun i => B (j + i)) 34
  by_cases e : Lib.indexByte ((List.range m).map fun i => B (j + i)) 34 = -1
  · exact Or.inl e
  · exact Or.inr ⟨(Lib.indexByte ((List.range m).map fun i => B (j + i)) 34).toNat, by omega⟩
end Go.Proofs.Qxb6604007a.Plain
