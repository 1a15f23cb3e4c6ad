/-
  THE PLAIN LAW of 'skipSpaceAndComments' and of the right-to-left model: no Go in sight.
-/
import Derived.Lib.IndexBytes
namespace Go.Proofs.Qxb6602520a.Plain
open Go

/-- Is the byte white space? -/
def sp (c : Int) : Bool := c == 32 || c == 9 || c == 10 || c == 13 || c == 12 || c == 11

/-- The byte at place k, 0 past the end. -/
def byteAt (s : ByteArray) (k : Nat) : Int := if h : k < s.size then (s[k].toNat : Int) else 0

theorem byteAt_lt {s : ByteArray} {k : Nat} (h : k < s.size) : byteAt s k = (s[k].toNat : Int) := by
  unfold byteAt; rw [dif_pos h]

/-- Does a comment open at place i? -/
def cmtAt (s : ByteArray) (i : Nat) : Bool :=
  decide (i + 1 < s.size) && (byteAt s i == 45 && byteAt s (i + 1) == 45) && (decide (i + 2 = s.size) || sp (byteAt s (i + 2)))

/-- The first newline from i on, looking at f bytes; -1 if none. -/
def nlF (s : ByteArray) : Nat → Nat → Int
  | 0, _ => -1
  | f + 1, i => if byteAt s i == 10 then (i : Int) else nlF s f (i + 1)

def nl (s : ByteArray) (i : Nat) : Int := nlF s (s.size - i) i

theorem nl_end (s : ByteArray) (i : Nat) (h : s.size ≤ i) : nl s i = -1 := by
  unfold nl; rw [Nat.sub_eq_zero_of_le h]; rfl

theorem nl_eq (s : ByteArray) (i : Nat) (h : i < s.size) : nl s i = if byteAt s i == 10 then (i : Int) else nl s (i + 1) := by
  unfold nl
  obtain ⟨d, hd⟩ : ∃ d, s.size - i = d + 1 := ⟨s.size - i - 1, by omega⟩
  rw [hd, show s.size - (i + 1) = d from by omega]
  rfl

theorem nlF_bd (s : ByteArray) : ∀ (f i : Nat), nlF s f i = -1 ∨ ((i : Int) ≤ nlF s f i ∧ nlF s f i < (i : Int) + f)
  | 0, i => Or.inl rfl
  | f + 1, i => by
    unfold nlF
    split
    · right; omega
    · rcases nlF_bd s f (i + 1) with h | h
      · exact Or.inl h
      · right; omega

theorem nl_bd (s : ByteArray) (i : Nat) : nl s i = -1 ∨ ((i : Int) ≤ nl s i ∧ nl s i < s.size) := by
  unfold nl
  by_cases h : i ≤ s.size
  · rcases nlF_bd s (s.size - i) i with h' | h'
    · exact Or.inl h'
    · right; omega
  · rw [Nat.sub_eq_zero_of_le (by omega)]; exact Or.inl rfl

/-- Where skipping stops, with f turns left. -/
def skipF (s : ByteArray) : Nat → Nat → Nat
  | 0, p => p
  | f + 1, p => if p < s.size then (if sp (byteAt s p) = true then skipF s f (p + 1) else if cmtAt s p = true then (if nl s p < 0 then s.size else skipF s f ((nl s p).toNat + 1)) else p) else p

def skip (s : ByteArray) (p : Nat) : Nat := skipF s (s.size - p) p

theorem skipF_past (s : ByteArray) (f p : Nat) (h : s.size ≤ p) : skipF s f p = p := by
  cases f with
  | zero => rfl
  | succ f => unfold skipF; rw [if_neg (by omega)]

theorem skipF_fuel (s : ByteArray) : ∀ (f g p : Nat), s.size - p ≤ f → s.size - p ≤ g → skipF s f p = skipF s g p
  | 0, g, p, hf, _ => by rw [skipF_past s g p (by omega)]; rfl
  | f + 1, 0, p, _, hg => by rw [skipF_past s (f + 1) p (by omega)]; rfl
  | f + 1, g + 1, p, hf, hg => by
    unfold skipF
    by_cases hp : p < s.size
    · rw [if_pos hp, if_pos hp]
      by_cases h1 : sp (byteAt s p) = true
      · rw [if_pos h1, if_pos h1]; exact skipF_fuel s f g (p + 1) (by omega) (by omega)
      · rw [if_neg h1, if_neg h1]
        by_cases h2 : cmtAt s p = true
        · rw [if_pos h2, if_pos h2]
          by_cases h3 : nl s p < 0
          · rw [if_pos h3, if_pos h3]
          · rw [if_neg h3, if_neg h3]
            have := nl_bd s p
            exact skipF_fuel s f g ((nl s p).toNat + 1) (by omega) (by omega)
        · rw [if_neg h2, if_neg h2]
    · rw [if_neg hp, if_neg hp]

theorem skip_past (s : ByteArray) (p : Nat) (h : s.size ≤ p) : skip s p = p := skipF_past s _ p h

theorem skip_eq (s : ByteArray) (p : Nat) (h : p < s.size) :
    skip s p = if sp (byteAt s p) = true then skip s (p + 1) else if cmtAt s p = true then (if nl s p < 0 then s.size else skip s ((nl s p).toNat + 1)) else p := by
  have e : skip s p = skipF s ((s.size - (p + 1)) + 1) p := by unfold skip; exact skipF_fuel s _ _ p (by omega) (by omega)
  rw [e, skipF, if_pos h]
  have hb := nl_bd s p
  by_cases h3 : nl s p < 0
  · rw [if_pos h3, if_pos h3]; rfl
  · rw [if_neg h3, if_neg h3]
    have e2 : skipF s (s.size - (p + 1)) ((nl s p).toNat + 1) = skip s ((nl s p).toNat + 1) := skipF_fuel s _ _ _ (by omega) (by omega)
    rw [e2]; rfl

theorem skip_blank {s : ByteArray} {p : Nat} (h : p < s.size) (h1 : sp (byteAt s p) = true) : skip s p = skip s (p + 1) := by
  rw [skip_eq s p h, if_pos h1]
theorem skip_tok {s : ByteArray} {p : Nat} (h : p < s.size) (h1 : sp (byteAt s p) = false) (h2 : cmtAt s p = false) : skip s p = p := by
  rw [skip_eq s p h, if_neg (by simp [h1]), if_neg (by simp [h2])]
theorem skip_cmt_end {s : ByteArray} {p : Nat} (h : p < s.size) (h1 : sp (byteAt s p) = false) (h2 : cmtAt s p = true) (h3 : nl s p < 0) : skip s p = s.size := by
  rw [skip_eq s p h, if_neg (by simp [h1]), if_pos h2, if_pos h3]
theorem skip_cmt_nl {s : ByteArray} {p : Nat} (h : p < s.size) (h1 : sp (byteAt s p) = false) (h2 : cmtAt s p = true) (h3 : 0 ≤ nl s p) : skip s p = skip s ((nl s p).toNat + 1) := by
  rw [skip_eq s p h, if_neg (by simp [h1]), if_pos h2, if_neg (by omega)]

/-- What the skip comes to: it goes forward, stays within the text, and stops at the end or at a token. -/
theorem skip_spec (s : ByteArray) : ∀ (f p : Nat), s.size - p ≤ f → p ≤ s.size →
    p ≤ skip s p ∧ skip s p ≤ s.size ∧ (skip s p = s.size ∨ (sp (byteAt s (skip s p)) = false ∧ cmtAt s (skip s p) = false))
  | 0, p, hf, hp => by
    rw [skip_past s p (by omega)]; exact ⟨by omega, by omega, Or.inl (by omega)⟩
  | f + 1, p, hf, hp => by
    by_cases hlt : p < s.size
    · cases h1 : sp (byteAt s p) with
      | true =>
        rw [skip_blank hlt h1]
        have := skip_spec s f (p + 1) (by omega) (by omega)
        exact ⟨by omega, this.2.1, this.2.2⟩
      | false =>
        cases h2 : cmtAt s p with
        | false => rw [skip_tok hlt h1 h2]; exact ⟨by omega, by omega, Or.inr ⟨h1, h2⟩⟩
        | true =>
          have hb := nl_bd s p
          by_cases h3 : nl s p < 0
          · rw [skip_cmt_end hlt h1 h2 h3]; exact ⟨by omega, by omega, Or.inl rfl⟩
          · rw [skip_cmt_nl hlt h1 h2 (by omega)]
            have := skip_spec s f ((nl s p).toNat + 1) (by omega) (by omega)
            exact ⟨by omega, this.2.1, this.2.2⟩
    · rw [skip_past s p (by omega)]; exact ⟨by omega, by omega, Or.inl (by omega)⟩

theorem skip_idem (s : ByteArray) (p : Nat) (h : p ≤ s.size) : skip s (skip s p) = skip s p := by
  obtain ⟨h1, h2, h3⟩ := skip_spec s _ p (Nat.le_refl _) h
  rcases h3 with h3 | ⟨h3, h4⟩
  · exact skip_past s _ (by omega)
  · by_cases h5 : skip s p < s.size
    · exact skip_tok h5 h3 h4
    · exact skip_past s _ (by omega)

/-! ### The newline, as IndexByte tells it -/
theorem index_nl (s : ByteArray) : ∀ (f p : Nat), s.size - p ≤ f →
    (nl s p = -1 ∧ Lib.indexByte (s.data.toList.drop p) 10 = -1) ∨ (∃ o : Nat, nl s p = (p : Int) + o ∧ Lib.indexByte (s.data.toList.drop p) 10 = o)
  | 0, p, hf => by
    left
    refine ⟨nl_end s p (by omega), ?_⟩
    rw [List.drop_of_length_le (by rw [← Lib.size_eq]; omega)]; rfl
  | f + 1, p, hf => by
    by_cases hlt : p < s.size
    · have hl : p < s.data.toList.length := by rw [← Lib.size_eq]; exact hlt
      have hd : s.data.toList.drop p = s[p] :: s.data.toList.drop (p + 1) := by
        rw [List.drop_eq_getElem_cons hl]; rfl
      rw [hd, nl_eq s p hlt, byteAt_lt hlt]
      unfold Lib.indexByte
      by_cases h10 : s[p] = 10
      · right; exact ⟨0, by simp [h10], by simp [h10]⟩
      · have hb : (s[p] == 10) = false := by simpa using h10
        have hi : (((s[p].toNat : Nat) : Int) == 10) = false := by
          simp only [beq_eq_false_iff_ne, ne_eq]
          intro e
          exact h10 (UInt8.toNat_inj.1 (by simpa using (by omega : s[p].toNat = 10)))
        rw [hi, hb]
        simp only [Bool.false_eq_true, if_false]
        rcases index_nl s f (p + 1) (by omega) with ⟨h1, h2⟩ | ⟨o, h1, h2⟩
        · left; rw [h1, h2]; simp
        · right; refine ⟨o + 1, by rw [h1]; omega, ?_⟩
          rw [h2, if_neg (by simp)]; omega
    · left
      refine ⟨nl_end s p (by omega), ?_⟩
      rw [List.drop_of_length_le (by rw [← Lib.size_eq]; omega)]; rfl

end Go.Proofs.Qxb6602520a.Plain
