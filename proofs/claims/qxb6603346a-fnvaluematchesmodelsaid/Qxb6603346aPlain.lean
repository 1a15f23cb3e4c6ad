/-
  THE PLAIN LAW of the scanner's 'value' and of the two-pass model: no Go in sight.
-/
import Derived.Lib.IndexBytes
namespace Go.Proofs.Qxb6603346a.Plain
open Go
set_option linter.unusedVariables false

/-- The byte at place k; 0 past the end. -/
def bAt (s : ByteArray) (k : Nat) : UInt8 := if h : k < s.size then s[k] else 0
theorem bAt_lt {s : ByteArray} {k : Nat} (h : k < s.size) : bAt s k = s[k] := by unfold bAt; rw [dif_pos h]

/-- Is place k a backslash that pairs with the byte behind it? -/
def esc (s : ByteArray) (k : Nat) : Bool := bAt s k == 92 && decide (k + 1 < s.size)

/-- The quoted text from place k on, f turns left: the bytes, and where the scanner stands behind it. -/
def valF (s : ByteArray) : Nat → Nat → List UInt8 × Nat
  | 0, k => ([], k)
  | f + 1, k => if k < s.size then (if bAt s k = 34 then ([], k + 1) else if esc s k = true then (bAt s (k + 1) :: (valF s f (k + 2)).1, (valF s f (k + 2)).2) else (bAt s k :: (valF s f (k + 1)).1, (valF s f (k + 1)).2)) else ([], k)
def val (s : ByteArray) (k : Nat) : List UInt8 × Nat := valF s (s.size - k) k

theorem valF_past (s : ByteArray) (f k : Nat) (h : s.size ≤ k) : valF s f k = ([], k) := by
  cases f with
  | zero => rfl
  | succ f => unfold valF; rw [if_neg (by omega)]
theorem valF_fuel (s : ByteArray) : ∀ (f g k : Nat), s.size - k ≤ f → s.size - k ≤ g → valF s f k = valF s g k
  | 0, g, k, hf, _ => by rw [valF_past s g k (by omega)]; rfl
  | f + 1, 0, k, _, hg => by rw [valF_past s (f + 1) k (by omega)]; rfl
  | f + 1, g + 1, k, hf, hg => by
    unfold valF
    rw [valF_fuel s f g (k + 2) (by omega) (by omega), valF_fuel s f g (k + 1) (by omega) (by omega)]
theorem val_past (s : ByteArray) (k : Nat) (h : s.size ≤ k) : val s k = ([], k) := valF_past s _ k h
theorem val_eq (s : ByteArray) (k : Nat) (h : k < s.size) :
    val s k = if bAt s k = 34 then ([], k + 1) else if esc s k = true then (bAt s (k + 1) :: (val s (k + 2)).1, (val s (k + 2)).2) else (bAt s k :: (val s (k + 1)).1, (val s (k + 1)).2) := by
  have e : val s k = valF s ((s.size - (k + 1)) + 1) k := by unfold val; exact valF_fuel s _ _ k (by omega) (by omega)
  rw [e, valF, if_pos h, valF_fuel s (s.size - (k + 1)) (s.size - (k + 2)) (k + 2) (by omega) (by omega)]
  rfl
theorem val_quote {s : ByteArray} {k : Nat} (h : k < s.size) (h1 : bAt s k = 34) : val s k = ([], k + 1) := by rw [val_eq s k h, if_pos h1]
theorem val_esc {s : ByteArray} {k : Nat} (h : k < s.size) (h1 : bAt s k ≠ 34) (h2 : esc s k = true) : val s k = (bAt s (k + 1) :: (val s (k + 2)).1, (val s (k + 2)).2) := by rw [val_eq s k h, if_neg h1, if_pos h2]
theorem val_plain {s : ByteArray} {k : Nat} (h : k < s.size) (h1 : bAt s k ≠ 34) (h2 : esc s k = false) : val s k = (bAt s k :: (val s (k + 1)).1, (val s (k + 1)).2) := by rw [val_eq s k h, if_neg h1, if_neg (by simp [h2])]

/-- Where the quoted text ends. -/
def endF (s : ByteArray) : Nat → Nat → Nat
  | 0, k => k
  | f + 1, k => if k < s.size then (if bAt s k = 34 then k else if esc s k = true then endF s f (k + 2) else endF s f (k + 1)) else k
def qend (s : ByteArray) (k : Nat) : Nat := endF s (s.size - k) k
theorem endF_past (s : ByteArray) (f k : Nat) (h : s.size ≤ k) : endF s f k = k := by
  cases f with
  | zero => rfl
  | succ f => unfold endF; rw [if_neg (by omega)]
theorem endF_fuel (s : ByteArray) : ∀ (f g k : Nat), s.size - k ≤ f → s.size - k ≤ g → endF s f k = endF s g k
  | 0, g, k, hf, _ => by rw [endF_past s g k (by omega)]; rfl
  | f + 1, 0, k, _, hg => by rw [endF_past s (f + 1) k (by omega)]; rfl
  | f + 1, g + 1, k, hf, hg => by
    unfold endF
    rw [endF_fuel s f g (k + 2) (by omega) (by omega), endF_fuel s f g (k + 1) (by omega) (by omega)]
theorem qend_past (s : ByteArray) (k : Nat) (h : s.size ≤ k) : qend s k = k := endF_past s _ k h
theorem qend_eq (s : ByteArray) (k : Nat) (h : k < s.size) : qend s k = if bAt s k = 34 then k else if esc s k = true then qend s (k + 2) else qend s (k + 1) := by
  have e : qend s k = endF s ((s.size - (k + 1)) + 1) k := by unfold qend; exact endF_fuel s _ _ k (by omega) (by omega)
  rw [e, endF, if_pos h, endF_fuel s (s.size - (k + 1)) (s.size - (k + 2)) (k + 2) (by omega) (by omega)]
  rfl
theorem qend_quote {s : ByteArray} {k : Nat} (h : k < s.size) (h1 : bAt s k = 34) : qend s k = k := by rw [qend_eq s k h, if_pos h1]
theorem qend_esc {s : ByteArray} {k : Nat} (h : k < s.size) (h1 : bAt s k ≠ 34) (h2 : esc s k = true) : qend s k = qend s (k + 2) := by rw [qend_eq s k h, if_neg h1, if_pos h2]
theorem qend_plain {s : ByteArray} {k : Nat} (h : k < s.size) (h1 : bAt s k ≠ 34) (h2 : esc s k = false) : qend s k = qend s (k + 1) := by rw [qend_eq s k h, if_neg h1, if_neg (by simp [h2])]
theorem esc_lt {s : ByteArray} {k : Nat} (h : esc s k = true) : k + 1 < s.size := by unfold esc at h; simp at h; exact h.2

theorem qend_bd (s : ByteArray) : ∀ (f k : Nat), s.size - k ≤ f → k ≤ s.size → k ≤ qend s k ∧ qend s k ≤ s.size
  | 0, k, hf, hk => by rw [qend_past s k (by omega)]; omega
  | f + 1, k, hf, hk => by
    by_cases h : k < s.size
    · by_cases h1 : bAt s k = 34
      · rw [qend_quote h h1]; omega
      · cases h2 : esc s k with
        | true =>
          rw [qend_esc h h1 h2]
          have := esc_lt h2
          have := qend_bd s f (k + 2) (by omega) (by omega)
          omega
        | false =>
          rw [qend_plain h h1 h2]
          have := qend_bd s f (k + 1) (by omega) (by omega)
          omega
    · rw [qend_past s k (by omega)]; omega

/-- The second pass, over the places i .. E - 1. -/
def unqF (s : ByteArray) (E : Nat) : Nat → Nat → List UInt8
  | 0, _ => []
  | f + 1, i => if i < E then (if bAt s i = 92 ∧ i + 1 < E then bAt s (i + 1) :: unqF s E f (i + 2) else bAt s i :: unqF s E f (i + 1)) else []
def unq (s : ByteArray) (E i : Nat) : List UInt8 := unqF s E (E - i) i
theorem unqF_past (s : ByteArray) (E f k : Nat) (h : E ≤ k) : unqF s E f k = [] := by
  cases f with
  | zero => rfl
  | succ f => unfold unqF; rw [if_neg (by omega)]
theorem unqF_fuel (s : ByteArray) (E : Nat) : ∀ (f g k : Nat), E - k ≤ f → E - k ≤ g → unqF s E f k = unqF s E g k
  | 0, g, k, hf, _ => by rw [unqF_past s E g k (by omega)]; rfl
  | f + 1, 0, k, _, hg => by rw [unqF_past s E (f + 1) k (by omega)]; rfl
  | f + 1, g + 1, k, hf, hg => by
    unfold unqF
    rw [unqF_fuel s E f g (k + 2) (by omega) (by omega), unqF_fuel s E f g (k + 1) (by omega) (by omega)]
theorem unq_past (s : ByteArray) (E k : Nat) (h : E ≤ k) : unq s E k = [] := unqF_past s E _ k h
theorem unq_eq (s : ByteArray) (E k : Nat) (h : k < E) : unq s E k = if bAt s k = 92 ∧ k + 1 < E then bAt s (k + 1) :: unq s E (k + 2) else bAt s k :: unq s E (k + 1) := by
  have e : unq s E k = unqF s E ((E - (k + 1)) + 1) k := by unfold unq; exact unqF_fuel s E _ _ k (by omega) (by omega)
  rw [e, unqF, if_pos h, unqF_fuel s E (E - (k + 1)) (E - (k + 2)) (k + 2) (by omega) (by omega)]
  rfl
theorem unq_len (s : ByteArray) (E : Nat) : ∀ (f k : Nat), E - k ≤ f → (unq s E k).length ≤ E - k
  | 0, k, h => by rw [unq_past s E k (by omega)]; simp
  | f + 1, k, h => by
    by_cases hk : k < E
    · rw [unq_eq s E k hk]
      split
      · have := unq_len s E f (k + 2) (by omega); simp; omega
      · have := unq_len s E f (k + 1) (by omega); simp; omega
    · rw [unq_past s E k (by omega)]; simp

/-- The one pass answers what the two passes answer. -/
theorem val_model (s : ByteArray) : ∀ (f k : Nat), s.size - k ≤ f → k ≤ s.size → val s k = (unq s (qend s k) k, if qend s k < s.size then qend s k + 1 else s.size)
  | 0, k, hf, hk => by
    rw [val_past s k (by omega), qend_past s k (by omega), unq_past s k k (Nat.le_refl _), if_neg (by omega)]
    rw [show k = s.size from by omega]
  | f + 1, k, hf, hk => by
    by_cases h : k < s.size
    · by_cases h1 : bAt s k = 34
      · rw [val_quote h h1, qend_quote h h1, unq_past s k k (Nat.le_refl _), if_pos h]
      · cases h2 : esc s k with
        | true =>
          have hl := esc_lt h2
          have hb := (qend_bd s _ (k + 2) (Nat.le_refl _) (by omega)).1
          have h92 : bAt s k = 92 := by unfold esc at h2; simp at h2; exact h2.1
          rw [val_esc h h1 h2, qend_esc h h1 h2, val_model s f (k + 2) (by omega) (by omega), unq_eq s _ k (by omega), if_pos (show bAt s k = 92 ∧ k + 1 < qend s (k + 2) from ⟨h92, by omega⟩)]
        | false =>
          have hb := qend_bd s _ (k + 1) (Nat.le_refl _) (by omega)
          have hno : ¬ (bAt s k = 92 ∧ k + 1 < qend s (k + 1)) := by
            rintro ⟨h92, hlt⟩
            unfold esc at h2
            simp [h92] at h2
            omega
          rw [val_plain h h1 h2, qend_plain h h1 h2, val_model s f (k + 1) (by omega) (by omega), unq_eq s _ k (by omega), if_neg hno]
    · rw [val_past s k (by omega), qend_past s k (by omega), unq_past s k k (Nat.le_refl _), if_neg (by omega)]
      rw [show k = s.size from by omega]

/-! ### Tokens -/
/-- A byte of a token. -/
def tch (c : Int) : Bool :=
  decide (32 < c) && decide (c < 127) && !(c == 34 || c == 40 || c == 41 || c == 44 || c == 47 || c == 58 || c == 59 || c == 60 || c == 61 || c == 62 || c == 63 || c == 64 || c == 91 || c == 92 || c == 93 || c == 123 || c == 125)

/-- The end of the run of token bytes from k on. -/
def runF (s : ByteArray) : Nat → Nat → Nat
  | 0, k => k
  | f + 1, k => if k < s.size ∧ tch (bAt s k).toNat = true then runF s f (k + 1) else k
def run (s : ByteArray) (k : Nat) : Nat := runF s (s.size - k) k
theorem run_stop (s : ByteArray) (k : Nat) (h : ¬ (k < s.size ∧ tch (bAt s k).toNat = true)) : run s k = k := by
  unfold run
  cases s.size - k with
  | zero => rfl
  | succ f => unfold runF; rw [if_neg h]
theorem run_go (s : ByteArray) (k : Nat) (h : k < s.size) (h2 : tch (bAt s k).toNat = true) : run s k = run s (k + 1) := by
  unfold run
  obtain ⟨d, hd⟩ : ∃ d, s.size - k = d + 1 := ⟨s.size - k - 1, by omega⟩
  rw [hd, show s.size - (k + 1) = d from by omega, runF, if_pos ⟨h, h2⟩]
theorem run_spec (s : ByteArray) : ∀ (f k : Nat), s.size - k ≤ f → k ≤ s.size →
    k ≤ run s k ∧ run s k ≤ s.size ∧ (∀ j, k ≤ j → j < run s k → tch (bAt s j).toNat = true) ∧ (run s k = s.size ∨ tch (bAt s (run s k)).toNat = false)
  | 0, k, hf, hk => by
    rw [run_stop s k (by omega)]
    exact ⟨Nat.le_refl _, hk, fun j h1 h2 => absurd h2 (by omega), Or.inl (by omega)⟩
  | f + 1, k, hf, hk => by
    by_cases h : k < s.size ∧ tch (bAt s k).toNat = true
    · rw [run_go s k h.1 h.2]
      obtain ⟨h1, h2, h3, h4⟩ := run_spec s f (k + 1) (by omega) (by omega)
      refine ⟨by omega, h2, fun j hj hl => ?_, h4⟩
      by_cases e : j = k
      · rw [e]; exact h.2
      · exact h3 j (by omega) hl
    · rw [run_stop s k h]
      refine ⟨Nat.le_refl _, hk, fun j h1 h2 => absurd h2 (by omega), ?_⟩
      by_cases h1 : k < s.size
      · right
        cases ht : tch (bAt s k).toNat with
        | false => rfl
        | true => exact absurd ⟨h1, ht⟩ h
      · left; omega
end Go.Proofs.Qxb6603346a.Plain
