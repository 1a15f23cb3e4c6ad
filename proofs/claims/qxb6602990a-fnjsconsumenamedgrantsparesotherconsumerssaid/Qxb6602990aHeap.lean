/-
  THE SUBJECT TREE IN MEMORY: the maps' run equations at string keys and pointer elements; what a tree of nodes looks like in the heap; how it stands behind each store.
-/
import Derived.Test.Qxb6602990aProg
import Derived.Test.Qxb6602990aPlain
import Derived.WalkKit
import Derived.MapKept
import Derived.Carry
import Derived.Deep.Draws
import Derived.ChangeMaps5
import Derived.Laws.Rows
namespace Go.Proofs.Qxb6602990a.Heap
open Go Go.RowKit Plain
set_option linter.unusedVariables false

/-- A string out of its bytes. -/
def bs (l : List UInt8) : ByteArray := ⟨l.toArray⟩
theorem bs_inj {a b : List UInt8} (h : bs a = bs b) : a = b := by
  unfold bs at h; injection h with h; simpa using congrArg Array.toList h
theorem bs_of (s : ByteArray) : s = bs s.data.toList := by unfold bs; cases s; simp

/-- The pointer to a node. -/
def ptr : Option Nat → Value
  | none => .pointer none
  | some b => .pointer (some ⟨b, 0, none⟩)

/-- Is the key the string t? -/
def keyIs (t : List UInt8) : Value → Bool
  | .string k => bs t == k
  | _ => false
/-- What the entries hold at key t. -/
def look : List MapEntry → List UInt8 → Option Value
  | [], _ => none
  | e :: l, t => if keyIs t e.key = true then some e.val else look l t

theorem sameNow_string (a b : ByteArray) : Instr.sameNow .string (.string a) (.string b) = some (a == b) := rfl

theorem find_look (t : List UInt8) : ∀ (l : List MapEntry) (i : Nat), (∀ e ∈ l, ∃ k, e.key = .string k) →
    (look l t = none ∧ Instr.findNow .string (.string (bs t)) l i = some none) ∨ (∃ v j, look l t = some v ∧ Instr.findNow .string (.string (bs t)) l i = some (some (j, v)))
  | [], i, _ => Or.inl ⟨rfl, rfl⟩
  | e :: l, i, hk => by
    obtain ⟨k, hk0⟩ := hk e (by simp)
    unfold look Instr.findNow
    rw [hk0, sameNow_string]
    cases hb : (bs t == k) with
    | true =>
      right
      exact ⟨e.val, i, by rw [if_pos (by simpa [keyIs] using hb)], rfl⟩
    | false =>
      rw [if_neg (by simp [keyIs, hb])]
      exact find_look t l (i + 1) (fun e' he' => hk e' (by simp [he']))

theorem keyIs_bs (t u : List UInt8) : keyIs t (.string (bs u)) = decide (u = t) := by
  unfold keyIs
  rw [Bool.eq_iff_iff, MapKept.bytes_beq, decide_eq_true_eq]
  exact ⟨fun h => (bs_inj h).symm, fun h => by rw [h]⟩

theorem look_push (l : List MapEntry) (u t : List UInt8) (v : Value) (c : Nat) (h : look l u = none) :
    look (l ++ [⟨.string (bs u), v, c⟩]) t = if t = u then some v else look l t := by
  induction l with
  | nil =>
    simp only [List.nil_append, look, keyIs_bs, decide_eq_true_eq]
    by_cases e : t = u
    · rw [if_pos e, if_pos e.symm]
    · rw [if_neg e, if_neg (fun h => e h.symm)]
  | cons e l ih =>
    unfold look at h
    split at h
    · cases h
    · rename_i hne
      rw [List.cons_append]
      unfold look
      by_cases hk : keyIs t e.key = true
      · rw [if_pos hk, if_pos hk, if_neg]
        intro he; subst he; exact hne hk
      · rw [if_neg hk, if_neg hk, ih h]

/-- BLOCK r OF w IS A MAP WHOSE ENTRY AT t POINTS TO THE NODE f t. -/
def MapIs (w : World) (r : Nat) (f : List UInt8 → Option Nat) : Prop :=
  ∃ es clock, w.heap[r]? = some (.map es clock) ∧ (∀ e ∈ es.toList, ∃ k, e.key = .string k) ∧ ∀ t, look es.toList t = (f t).map fun b => .pointer (some ⟨b, 0, none⟩)

theorem zero38 (w : World) : (zeroValue 38).run Try.prog w = .ok (.pointer none) w := by kernel_rfl
theorem check51 (e : Bool) (t : ByteArray) (w : World) : (Instr.checkKey e 10000 9 (.string t)).run Try.prog w = .ok () w :=
  MapKept.run_checkKey (k := .string t) Try.underlying9 (by simp [MapKept.IsKey]) e 9999

theorem run_look {w : World} {r : Nat} {f : List UInt8 → Option Nat} (h : MapIs w r f) (t : List UInt8) :
    (Instr.lookup 51 (.map (some r)) (.string (bs t)) false).run Try.prog w = .ok (ptr (f t)) w := by
  obtain ⟨es, clock, hb, hk, hl⟩ := h
  have hl := hl t
  rcases find_look t es.toList 0 hk with ⟨h1, h2⟩ | ⟨v, j, h1, h2⟩
  · rw [h1] at hl
    cases hf : f t with
    | some b => rw [hf] at hl; cases hl
    | none => simp [Instr.lookup, run_underlying Try.underlying51, MapKept.run_getObj_map hb, check51, MapKept.run_findKey Try.underlying9 h2, Result.andThen, ptr]
  · rw [h1] at hl
    cases hf : f t with
    | none => rw [hf] at hl; cases hl
    | some b =>
      rw [hf] at hl
      obtain rfl : v = .pointer (some ⟨b, 0, none⟩) := by simpa using hl
      simp [Instr.lookup, run_underlying Try.underlying51, MapKept.run_getObj_map hb, check51, MapKept.run_findKey Try.underlying9 h2, Result.andThen, ptr]
theorem run_look_nil (w : World) (t : ByteArray) : (Instr.lookup 51 (.map none) (.string t) false).run Try.prog w = .ok (.pointer none) w := by
  simp [Instr.lookup, run_underlying Try.underlying51, check51, MapKept.run_findKey Try.underlying9 (show Instr.findNow .string (.string t) [] 0 = some none from rfl), Result.andThen]

/-- A store of a new key. -/
theorem run_put {w : World} {r : Nat} {f : List UInt8 → Option Nat} (h : MapIs w r f) (t : List UInt8) (b : Nat) (hf : f t = none) :
    ∃ o, (∀ n, (Instr.mapUpdate 51 (.map (some r)) (.string (bs t)) (.pointer (some ⟨b, 0, none⟩))).run Try.prog (w.drewN n) = .ok () ((ChangeMaps.setBlock w r o).drewN n)) ∧
      (∃ es c, o = .map es c) ∧ ∀ w', w'.heap[r]? = some o → MapIs w' r (fun u => if u = t then some b else f u) := by
  obtain ⟨es, clock, hb, hk, hl⟩ := h
  have hl0 := hl t
  rw [hf] at hl0
  rcases find_look t es.toList 0 hk with ⟨h1, h2⟩ | ⟨v, j, h1, h2⟩
  · refine ⟨.map (es.push ⟨.string (bs t), .pointer (some ⟨b, 0, none⟩), clock⟩) (clock + 1), fun n => ?_, ⟨_, _, rfl⟩, fun w' hw' => ⟨_, _, hw', ?_, fun u => ?_⟩⟩
    · have hb' : (w.drewN n).heap[r]? = some (.map es clock) := hb
      simp [Instr.mapUpdate, run_underlying Try.underlying51, MapKept.run_getObj_map hb', check51, MapKept.run_findKey Try.underlying9 h2, MapKept.run_setObj_map _ hb', Result.andThen, ChangeMaps.setBlock]
      rfl
    · intro e he
      simp only [Array.toList_push, List.mem_append, List.mem_singleton] at he
      rcases he with he | rfl
      · exact hk e he
      · exact ⟨_, rfl⟩
    · rw [Array.toList_push, look_push _ _ _ _ _ h1]
      show _ = Option.map _ (if u = t then some b else f u)
      by_cases e : u = t
      · rw [if_pos e, if_pos e]; rfl
      · rw [if_neg e, if_neg e]; exact hl u
  · rw [h1] at hl0; cases hl0

theorem MapIs.of_block {w w' : World} {r : Nat} {f : List UInt8 → Option Nat} (h : MapIs w r f) (hb : w'.heap[r]? = w.heap[r]?) : MapIs w' r f := by
  obtain ⟨es, clock, h1, h2⟩ := h
  exact ⟨es, clock, hb.trans h1, h2⟩
theorem MapIs.congr {w : World} {r : Nat} {f g : List UInt8 → Option Nat} (h : MapIs w r f) (e : ∀ t, f t = g t) : MapIs w r g := by
  obtain rfl : f = g := funext e
  exact h
theorem MapIs.lt {w : World} {r : Nat} {f : List UInt8 → Option Nat} (h : MapIs w r f) : r < w.heap.size := by
  obtain ⟨es, clock, hb, _⟩ := h
  exact (Array.getElem?_eq_some_iff.1 hb).1

/-! ### A tree of nodes in the heap -/
/-- FROM BLOCK B ON, w HOLDS A TREE: nd: the node's block at a path; mp: its map's block; en: its mark. -/
structure Inv (w : World) (B root : Nat) (nd mp : List (List UInt8) → Option Nat) (en : List (List UInt8) → Bool) : Prop where
  rt : nd [] = some root
  node : ∀ p b, nd p = some b → B ≤ b ∧ w.heap[b]? = some (.cells #[.map (mp p), .bool (en p)] 53 (0, 0))
  maps : ∀ p r, mp p = some r → B ≤ r ∧ MapIs w r (fun t => nd (p ++ [t]))
  nomap : ∀ p, mp p = none → ∀ t, nd (p ++ [t]) = none
  dead : ∀ p, nd p = none → mp p = none ∧ en p = false
  inj : ∀ p q b, nd p = some b → nd q = some b → p = q
  injm : ∀ p q r, mp p = some r → mp q = some r → p = q

theorem lt_of_some {w : World} {b : Nat} {o : Obj} (h : w.heap[b]? = some o) : b < w.heap.size := (Array.getElem?_eq_some_iff.1 h).1

section
variable {w : World} {B root : Nat} {nd mp : List (List UInt8) → Option Nat} {en : List (List UInt8) → Bool}

theorem Inv.kept (h : Inv w B root nd mp en) {w' : World} (hk : ∀ b, B ≤ b → b < w.heap.size → w'.heap[b]? = w.heap[b]?) : Inv w' B root nd mp en where
  rt := h.rt
  node p b hp := by
    obtain ⟨h1, h2⟩ := h.node p b hp
    exact ⟨h1, (hk b h1 (lt_of_some h2)).trans h2⟩
  maps p r hp := by
    obtain ⟨h1, h2⟩ := h.maps p r hp
    exact ⟨h1, h2.of_block (hk r h1 h2.lt)⟩
  nomap := h.nomap
  dead := h.dead
  inj := h.inj
  injm := h.injm

theorem inv_new (w : World) : Inv (w.alloc (.cells #[.map none, .bool false] 53)) w.heap.size w.heap.size (fun p => if p = [] then some w.heap.size else none) (fun _ => none) (fun _ => false) where
  rt := by simp
  node p b hp := by
    by_cases e : p = []
    · rw [if_pos e] at hp
      obtain rfl : w.heap.size = b := by simpa using hp
      exact ⟨Nat.le_refl _, heap_alloc_new w _⟩
    · rw [if_neg e] at hp; cases hp
  maps p r hp := by cases hp
  nomap p _ t := by simp
  dead p _ := ⟨rfl, rfl⟩
  inj p q b hp hq := by
    by_cases e : p = []
    · by_cases e' : q = []
      · rw [e, e']
      · rw [if_neg e'] at hq; cases hq
    · rw [if_neg e] at hp; cases hp
  injm p q r hp _ := by cases hp

/-- The mark is set. -/
theorem Inv.mark (h : Inv w B root nd mp en) {p : List (List UInt8)} {b : Nat} (hp : nd p = some b) :
    Inv (w.setCell ⟨b, 1, none⟩ (.bool true)) B root nd mp (fun q => if q = p then true else en q) where
  rt := h.rt
  node q c hq := by
    obtain ⟨h1, h2⟩ := h.node q c hq
    refine ⟨h1, ?_⟩
    by_cases e : q = p
    · subst e
      obtain rfl : b = c := by rw [hp] at hq; simpa using hq
      rw [if_pos rfl, heap_setCell_same w b 1 _ _ _ h2]; rfl
    · rw [if_neg e, heap_setCell_other _ _ _ _ (show c ≠ b from fun hc => e (h.inj q p c hq (by rw [hc]; exact hp)))]; exact h2
  maps q r hq := by
    obtain ⟨h1, h2⟩ := h.maps q r hq
    refine ⟨h1, h2.of_block (heap_setCell_other _ _ _ _ (show r ≠ b from ?_))⟩
    rintro rfl
    obtain ⟨es, c, h3, _⟩ := h2
    rw [(h.node p r hp).2] at h3; cases h3
  nomap := h.nomap
  dead q hq := by
    have hd := h.dead q hq
    refine ⟨hd.1, ?_⟩
    by_cases e : q = p
    · subst e; rw [hp] at hq; cases hq
    · rw [if_neg e]; exact hd.2
  inj := h.inj
  injm := h.injm

/-- A node gets its map. -/
theorem Inv.addMap (h : Inv w B root nd mp en) (hB : B ≤ w.heap.size) {p : List (List UInt8)} {b : Nat} (hp : nd p = some b) (hm : mp p = none) :
    Inv ((w.setCell ⟨b, 0, none⟩ (.map (some w.heap.size))).alloc (.map #[] 0)) B root nd (fun q => if q = p then some w.heap.size else mp q) en where
  rt := h.rt
  node q c hq := by
    obtain ⟨h1, h2⟩ := h.node q c hq
    have hlt := lt_of_some h2
    refine ⟨h1, ?_⟩
    rw [Below.heap_alloc _ _ _ (by simpa [World.setCell] using hlt)]
    by_cases e : q = p
    · subst e
      obtain rfl : b = c := by rw [hp] at hq; simpa using hq
      rw [if_pos rfl, heap_setCell_same w b 0 _ _ _ h2]; rfl
    · rw [if_neg e, heap_setCell_other _ _ _ _ (show c ≠ b from fun hc => e (h.inj q p c hq (by rw [hc]; exact hp)))]; exact h2
  maps q r hq := by
    by_cases e : q = p
    · subst e
      rw [if_pos rfl] at hq
      obtain rfl : w.heap.size = r := by simpa using hq
      refine ⟨hB, #[], 0, ?_, by simp, fun t => ?_⟩
      · have := heap_alloc_new (w.setCell ⟨b, 0, none⟩ (.map (some w.heap.size))) (.map #[] 0)
        simpa [World.setCell] using this
      · show _ = Option.map _ (nd (q ++ [t]))
        rw [h.nomap q hm t]; rfl
    · rw [if_neg e] at hq
      obtain ⟨h1, h2⟩ := h.maps q r hq
      have hlt := h2.lt
      refine ⟨h1, h2.of_block ?_⟩
      rw [Below.heap_alloc _ _ _ (by simpa [World.setCell] using hlt)]
      refine heap_setCell_other _ _ _ _ (show r ≠ b from ?_)
      rintro rfl
      obtain ⟨es, c, h3, _⟩ := h2
      rw [(h.node p r hp).2] at h3; cases h3
  nomap q hq t := by
    by_cases e : q = p
    · rw [if_pos e] at hq; cases hq
    · rw [if_neg e] at hq; exact h.nomap q hq t
  dead q hq := by
    have hd := h.dead q hq
    refine ⟨?_, hd.2⟩
    by_cases e : q = p
    · subst e; rw [hp] at hq; cases hq
    · rw [if_neg e]; exact hd.1
  inj := h.inj
  injm q q' r hq hq' := by
    have key : ∀ x, (if x = p then some w.heap.size else mp x) = some r → x = p ∨ (mp x = some r ∧ r < w.heap.size) := by
      intro x hx
      by_cases e : x = p
      · exact Or.inl e
      · rw [if_neg e] at hx; exact Or.inr ⟨hx, (h.maps x r hx).2.lt⟩
    rcases key q hq with e | ⟨e1, e2⟩
    · rcases key q' hq' with e' | ⟨e1', e2'⟩
      · rw [e, e']
      · rw [if_pos e] at hq
        have : w.heap.size = r := by simpa using hq
        omega
    · rcases key q' hq' with e' | ⟨e1', e2'⟩
      · rw [if_pos e'] at hq'
        have : w.heap.size = r := by simpa using hq'
        omega
      · exact h.injm q q' r e1 e1'

theorem snoc_inj {p q : List (List UInt8)} {t u : List UInt8} (h : p ++ [t] = q ++ [u]) : p = q ∧ t = u := by
  have := List.append_inj' h rfl
  exact ⟨this.1, by simpa using this.2⟩

/-- A node gets a child. -/
theorem Inv.addChild (h : Inv w B root nd mp en) (hB : B ≤ w.heap.size) {p : List (List UInt8)} {b r : Nat} {t : List UInt8} (hp : nd p = some b) (hm : mp p = some r) (ht : nd (p ++ [t]) = none) {o : Obj}
    (ho : ∀ w', w'.heap[r]? = some o → MapIs w' r (fun u => if u = t then some w.heap.size else nd (p ++ [u]))) :
    Inv (ChangeMaps.setBlock (w.alloc (.cells #[.map none, .bool false] 53)) r o) B root (fun q => if q = p ++ [t] then some w.heap.size else nd q) mp en := by
  obtain ⟨hr1, hr2⟩ := h.maps p r hm
  have hrl := hr2.lt
  obtain ⟨es, clock, hrb, _⟩ := hr2
  have hrb' : (w.alloc (.cells #[.map none, .bool false] 53)).heap[r]? = some (.map es clock) := by rw [Below.heap_alloc _ _ _ hrl]; exact hrb
  have hself := ChangeMaps.heap_setBlock_same hrb' o
  have hoth : ∀ i, i ≠ r → i < w.heap.size → (ChangeMaps.setBlock (w.alloc (.cells #[.map none, .bool false] 53)) r o).heap[i]? = w.heap[i]? := fun i hi hlt => by
    rw [ChangeMaps.heap_setBlock_other hrb' o hi, Below.heap_alloc _ _ _ hlt]
  have hnew : (ChangeMaps.setBlock (w.alloc (.cells #[.map none, .bool false] 53)) r o).heap[w.heap.size]? = some (.cells #[.map none, .bool false] 53) := by
    rw [ChangeMaps.heap_setBlock_other hrb' o (by omega), heap_alloc_new]
  have hdead := h.dead _ ht
  refine ⟨?_, ?_, ?_, ?_, ?_, ?_, h.injm⟩
  · show (if [] = p ++ [t] then some w.heap.size else nd []) = some root
    rw [if_neg (by simp), h.rt]
  · intro q c hq
    by_cases e : q = p ++ [t]
    · have hq : (if q = p ++ [t] then some w.heap.size else nd q) = some c := hq
      rw [if_pos e] at hq
      obtain rfl : w.heap.size = c := by simpa using hq
      rw [e, hdead.1, hdead.2]
      exact ⟨hB, hnew⟩
    · have hq : (if q = p ++ [t] then some w.heap.size else nd q) = some c := hq
      rw [if_neg e] at hq
      obtain ⟨h1, h2⟩ := h.node q c hq
      refine ⟨h1, ?_⟩
      rw [hoth c ?_ (lt_of_some h2)]; exact h2
      rintro rfl
      rw [hrb] at h2; cases h2
  · intro q r' hq
    by_cases e : q = p
    · subst e
      obtain rfl : r = r' := by rw [hm] at hq; simpa using hq
      refine ⟨hr1, (ho _ hself).congr fun u => ?_⟩
      show _ = if q ++ [u] = q ++ [t] then some w.heap.size else nd (q ++ [u])
      by_cases eu : u = t
      · rw [if_pos eu, if_pos (by rw [eu])]
      · rw [if_neg eu, if_neg (fun hh => eu (snoc_inj hh).2)]
    · obtain ⟨h1, h2⟩ := h.maps q r' hq
      have hne : r' ≠ r := fun hh => e (h.injm q p r' hq (by rw [hh]; exact hm))
      refine ⟨h1, (h2.of_block (hoth r' hne h2.lt)).congr fun u => ?_⟩
      show _ = if q ++ [u] = p ++ [t] then some w.heap.size else nd (q ++ [u])
      rw [if_neg (fun hh => e (snoc_inj hh).1)]
  · intro q hq u
    show (if q ++ [u] = p ++ [t] then some w.heap.size else nd (q ++ [u])) = none
    by_cases e : q ++ [u] = p ++ [t]
    · rw [(snoc_inj e).1, hm] at hq; cases hq
    · rw [if_neg e]; exact h.nomap q hq u
  · intro q hq
    have hq : (if q = p ++ [t] then some w.heap.size else nd q) = none := hq
    by_cases e : q = p ++ [t]
    · rw [if_pos e] at hq; cases hq
    · rw [if_neg e] at hq; exact h.dead q hq
  · intro q q' c hq hq'
    have key : ∀ x, (if x = p ++ [t] then some w.heap.size else nd x) = some c → x = p ++ [t] ∧ c = w.heap.size ∨ (nd x = some c ∧ c < w.heap.size) := by
      intro x hx
      by_cases e : x = p ++ [t]
      · rw [if_pos e] at hx; exact Or.inl ⟨e, by simpa using hx.symm⟩
      · rw [if_neg e] at hx; exact Or.inr ⟨hx, lt_of_some (h.node x c hx).2⟩
    rcases key q hq with ⟨e, e2⟩ | ⟨e1, e2⟩
    · rcases key q' hq' with ⟨e', e2'⟩ | ⟨e1', e2'⟩
      · rw [e, e']
      · omega
    · rcases key q' hq' with ⟨e', e2'⟩ | ⟨e1', e2'⟩
      · omega
      · exact h.inj q q' c e1 e1'
end

end Go.Proofs.Qxb6602990a.Heap
