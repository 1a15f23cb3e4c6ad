import Derived.Test.Qxb6602990aCoversAll
namespace Go.Proofs.Qxb6602990a.Leaf
open Go Go.RowKit Plain Heap
set_option linter.unusedVariables false

/-- IN THE MIDST OF 'add': the nodes down to path q have been laid besides. -/
def Mid (nd : List (List UInt8) → Option Nat) (en : List (List UInt8) → Bool) (L : List (List (List UInt8))) (q : List (List UInt8)) : Prop :=
  (∀ p, p ≠ [] → ((nd p).isSome = true ↔ (dvs p L ≠ [] ∨ p <+: q))) ∧ ∀ p, (en p = true ↔ p ∈ L)

theorem mid_start {nd : List (List UInt8) → Option Nat} {en : List (List UInt8) → Bool} {L : List (List (List UInt8))} (h : Spec nd en L) : Mid nd en L [] :=
  ⟨fun p hp => by rw [h.1 p hp]; constructor
                  · exact Or.inl
                  · rintro (h | h)
                    · exact h
                    · exact absurd (List.prefix_nil.1 h) hp, h.2⟩

theorem prefix_snoc {p q : List (List UInt8)} {t : List UInt8} : p <+: q ++ [t] ↔ p <+: q ∨ p = q ++ [t] := by
  constructor
  · rintro ⟨l, hl⟩
    rcases List.eq_nil_or_concat l with rfl | ⟨l', x, rfl⟩
    · right; simpa using hl
    · left
      have : (p ++ l') ++ [x] = q ++ [t] := by simpa using hl
      exact ⟨l', (snoc_inj this).1⟩
  · rintro (⟨l, rfl⟩ | rfl)
    · exact ⟨l ++ [t], by simp⟩
    · exact List.prefix_refl _

theorem mid_down {nd : List (List UInt8) → Option Nat} {en : List (List UInt8) → Bool} {L : List (List (List UInt8))} {q : List (List UInt8)} {t : List UInt8} {c : Nat} (h : Mid nd en L q) (hc : nd (q ++ [t]) = some c) : Mid nd en L (q ++ [t]) :=
  ⟨fun p hp => by
    rw [h.1 p hp, prefix_snoc]
    constructor
    · rintro (h | h)
      · exact Or.inl h
      · exact Or.inr (Or.inl h)
    · rintro (h1 | h1 | h1)
      · exact Or.inl h1
      · exact Or.inr h1
      · subst h1; exact (h.1 _ hp).1 (by rw [hc]; rfl), h.2⟩

theorem mid_new {nd : List (List UInt8) → Option Nat} {en : List (List UInt8) → Bool} {L : List (List (List UInt8))} {q : List (List UInt8)} {t : List UInt8} {c : Nat} (h : Mid nd en L q) :
    Mid (fun p => if p = q ++ [t] then some c else nd p) en L (q ++ [t]) :=
  ⟨fun p hp => by
    show (if p = q ++ [t] then some c else nd p).isSome = true ↔ _
    rw [prefix_snoc]
    by_cases e : p = q ++ [t]
    · rw [if_pos e]; exact ⟨fun _ => Or.inr (Or.inr e), fun _ => rfl⟩
    · rw [if_neg e, h.1 p hp]
      constructor
      · rintro (h | h)
        · exact Or.inl h
        · exact Or.inr (Or.inl h)
      · rintro (h1 | h1 | h1)
        · exact Or.inl h1
        · exact Or.inr h1
        · exact absurd h1 e, h.2⟩

theorem mid_end {nd : List (List UInt8) → Option Nat} {en : List (List UInt8) → Bool} {L : List (List (List UInt8))} {q : List (List UInt8)} (h : Mid nd en L q) :
    Spec nd (fun p => if p = q then true else en p) (q :: L) :=
  ⟨fun p hp => by
    rw [h.1 p hp, dvs_ne, dvs_ne]
    constructor
    · rintro (⟨l, hl, h1⟩ | h1)
      · exact ⟨l, by simp [hl], h1⟩
      · exact ⟨q, by simp, h1⟩
    · rintro ⟨l, hl, h1⟩
      rcases List.mem_cons.1 hl with rfl | hl
      · exact Or.inr h1
      · exact Or.inl ⟨l, hl, h1⟩,
   fun p => by
    show (if p = q then true else en p) = true ↔ _
    by_cases e : p = q
    · rw [if_pos e]; simp [e]
    · rw [if_neg e, h.2 p]; simp [e]⟩

theorem below_setBlock {B : Nat} {a w : World} (h : Below B a w) {r : Nat} (hr : B ≤ r) (o : Obj) : Below B a (ChangeMaps.setBlock w r o) :=
  h.trans ⟨rfl, rfl, rfl, by simp [ChangeMaps.setBlock], fun k hk => by simp only [ChangeMaps.setBlock]; rw [Array.getElem?_setIfInBounds_ne (by omega)]⟩
theorem below_drewN {B : Nat} {a w : World} (h : Below B a w) (n : Nat) : Below B a (w.drewN n) := ⟨h.os, h.tape, h.output, h.size, h.block⟩

theorem frozen_of {W : World} {B root : Nat} {nd mp : List (List UInt8) → Option Nat} {en : List (List UInt8) → Bool} (h : Inv W B root nd mp en) {p : List (List UInt8)} {b : Nat} (hp : nd p = some b) (i : Nat) :
    W.frozen? ⟨b, i, none⟩ = false := by
  have hb := (h.node p b hp).2
  simp [World.frozen?, hb]

theorem join_suffix : ∀ (q r : List (List UInt8)), (join r).length ≤ (join (q ++ r)).length
  | [], r => Nat.le_refl _
  | a :: q, r => Nat.le_trans (join_suffix q r) (join_tail_le a (q ++ r))

/-- The round's memory, hidden from the walk. -/
def Mem (B root : Nat) (L : List (List (List UInt8))) (p : List (List UInt8)) (w wr : World) (b : Nat) (r : List (List UInt8)) : Prop :=
  ∃ q nd mp en, q ++ r = p ∧ nd q = some b ∧ Inv wr B root nd mp en ∧ Mid nd en L q ∧ Below B w wr

set_option maxHeartbeats 1000000 in
theorem add_all {B root : Nat} {nd mp : List (List UInt8) → Option Nat} {en : List (List UInt8) → Bool} {L : List (List (List UInt8))} (p : List (List UInt8)) (hp : ∀ t ∈ p, Tok t) (hne : p ≠ []) (hlen : (join p).length ≤ 2097152)
    (w : World) (hB : B ≤ w.heap.size) (hI : Inv w B root nd mp en) (hS : Spec nd en L) :
    Calls Try.prog 44 #[.pointer (some ⟨root, 0, none⟩), .string (bs (join p))] w fun e w' => e = .returned (.tuple #[]) ∧ (∃ nd' mp' en', Inv w' B root nd' mp' en' ∧ Spec nd' en' (p :: L)) ∧ Below B w w' := by
  have start : Mem B root L p w w root p := ⟨[], nd, mp, en, rfl, hI.rt, hI, mid_start hS, Below.refl _ _⟩
  have hmm := @run_makeMap Try.prog
  have hnm := fun (w : World) (r : Option Nat) => run_eql_map_nil (P := Try.prog) w 51 9 38 r Try.underlying51
  have ST := hide start
  have HP := hide (And.intro hp hlen)
  have HNE := hide hne
  clear hI hS hp hlen start hne
  obtain ⟨X, hX⟩ : ∃ X, X = bs (join p) := ⟨_, rfl⟩
  rw [← hX]
  have HX := hide hX
  clear hX
  go_enter Try.func44, Try.ntmps44
  go_wp2
  go_loopg [0, 1, 4] p.length (fun g t s m wr => ∃ b r X mb, g = r.length ∧ t = .pointer (some ⟨b, 0, none⟩) ∧ s = .string X ∧ m = .bool mb ∧ Hid (X = bs (join r) ∧ mb = !r.isEmpty) ∧ Hid (Mem B root L p w wr b r))
  case atStart =>
    go_light
    exact ⟨root, p, X, true, rfl, rfl, rfl, rfl, hide ⟨unhide HX, by have := unhide HNE; cases p <;> simp_all⟩, ST⟩
  case round =>
    obtain ⟨b, r, Y, mb, rfl, rfl, rfl, rfl, HY, HM⟩ := hrel
    obtain ⟨q, nd, mp, en, hq, hb, hI, hMid, hBel⟩ := unhide HM
    have hbl : b < wr.heap.size := lt_of_some (hI.node q b hb).2
    cases r with
    | nil =>
      obtain ⟨hY, hmb⟩ := unhide HY
      obtain rfl : mb = false := by rw [hmb]; rfl
      have hc := (cell_of hI hb).2
      have hf := frozen_of hI hb 1
      have fin : (∃ nd' mp' en', Inv (wr.setCell ⟨b, 1, none⟩ (.bool true)) B root nd' mp' en' ∧ Spec nd' en' (p :: L)) ∧ Below B w (wr.setCell ⟨b, 1, none⟩ (.bool true)) := by
        obtain rfl : q = p := by simpa using hq
        exact ⟨⟨_, _, _, hI.mark hb, mid_end hMid⟩, hBel.setCell (hI.node q b hb).1 _⟩
      have FIN := hide fin
      clear fin hI hMid hBel HM HY hq hb hmb hY
      go_wp2
      go_end0
      exact ⟨rfl, unhide FIN⟩
    | cons t r =>
      obtain ⟨hY, hmb⟩ := unhide HY
      obtain rfl : mb = true := by rw [hmb]; rfl
      have hTt : Tok t := (unhide HP).1 t (by rw [← hq]; simp)
      have hlen : (join (t :: r)).length ≤ 2097152 := Nat.le_trans (join_suffix q (t :: r)) (by rw [hq]; exact (unhide HP).2)
      have hcut : Cuts Y (bs t) (bs (join r)) (!r.isEmpty) := by rw [hY]; exact fun w => cut_is hTt w hlen
      have HC := hide hcut
      have hBs : B ≤ wr.heap.size := Nat.le_trans hB hBel.size
      cases hk : nd (q ++ [t]) with
      | some c =>
        have facts : ∀ w1, (∃ n, w1 = wr.drewN n) → w1.cell? ⟨b, 0, none⟩ = some (.map (mp q)) ∧ (Instr.lookup 51 (.map (mp q)) (.string (bs t)) false).run Try.prog w1 = .ok (.pointer (some ⟨c, 0, none⟩)) w1 ∧ Hid (Mem B root L p w w1 c r) := by
          rintro w1 ⟨n, rfl⟩
          refine ⟨(cell_of hI hb).1, ?_, q ++ [t], nd, mp, en, by simpa using hq, hk, inv_draw hI n, mid_down hMid hk, below_drewN hBel n⟩
          have := looks_of hI q t n
          rw [hk] at this; exact this
        have F := hide facts
        clear facts hI hMid hBel HM HY hq hb hmb hY hk hcut hBs hlen hTt hmm hnm
        obtain ⟨M, hM⟩ : ∃ M, M = mp q := ⟨_, rfl⟩
        obtain ⟨T, hT⟩ : ∃ T, T = bs t := ⟨_, rfl⟩
        obtain ⟨Z, hZ⟩ : ∃ Z, Z = bs (join r) := ⟨_, rfl⟩
        obtain ⟨bb, hbb⟩ : ∃ bb, bb = !r.isEmpty := ⟨_, rfl⟩
        rw [← hM, ← hT] at F
        rw [← hT, ← hZ, ← hbb] at HC
        have HZ := hide (And.intro hZ hbb)
        clear hM hT hZ hbb
        go_wp2_with (fail)
        refine (unhide HC _).mono ?_
        rintro e w1 ⟨rfl, hn⟩
        obtain ⟨f1, f2, HM1⟩ := unhide F w1 hn
        clear hn F HC
        go_wp2
        go_roundg r.length
        case measure => simp
        case rel => exact ⟨c, r, Z, bb, rfl, rfl, rfl, rfl, HZ, HM1⟩
      | none =>
        cases hm : mp q with
        | some x =>
          have facts : ∀ w1, (∃ n, w1 = wr.drewN n) → ∃ W5, w1.cell? ⟨b, 0, none⟩ = some (.map (some x)) ∧ b < w1.heap.size ∧ (Instr.lookup 51 (.map (some x)) (.string (bs t)) false).run Try.prog w1 = .ok (.pointer none) w1 ∧
              (Instr.mapUpdate 51 (.map (some x)) (.string (bs t)) (.pointer (some ⟨w1.heap.size, 0, none⟩))).run Try.prog (w1.alloc (.cells #[.map none, .bool false] 53)) = .ok () W5 ∧ Hid (Mem B root L p w W5 w1.heap.size r) := by
            rintro w1 ⟨n, rfl⟩
            have hI1 := inv_draw hI n
            have hmap := (hI1.maps q x hm).2
            obtain ⟨o, hrun, ⟨es, c, ho⟩, hput⟩ := run_put (w := (wr.drewN n).alloc (.cells #[.map none, .bool false] 53)) (hmap.of_block (Below.heap_alloc _ _ _ hmap.lt)) t (wr.drewN n).heap.size hk
            refine ⟨ChangeMaps.setBlock ((wr.drewN n).alloc (.cells #[.map none, .bool false] 53)) x o, by rw [← hm]; exact (cell_of hI1 hb).1, hbl, ?_, hrun 0, q ++ [t], _, mp, en, by simpa using hq, ?_, hI1.addChild hBs hb hm hk hput, mid_new hMid, ?_⟩
            · have := looks_of hI q t n
              rw [hk, hm] at this; exact this
            · show (if q ++ [t] = q ++ [t] then some _ else nd _) = _
              rw [if_pos rfl]
            · exact below_setBlock ((below_drewN hBel n).alloc hBs _) (hI.maps q x hm).1 o
          have F := hide facts
          clear facts hI hMid hBel HM HY hq hb hmb hY hk hcut hBs hlen hTt hmm hm
          obtain ⟨T, hT⟩ : ∃ T, T = bs t := ⟨_, rfl⟩
          obtain ⟨Z, hZ⟩ : ∃ Z, Z = bs (join r) := ⟨_, rfl⟩
          obtain ⟨bb, hbb⟩ : ∃ bb, bb = !r.isEmpty := ⟨_, rfl⟩
          rw [← hT] at F
          rw [← hT, ← hZ, ← hbb] at HC
          have HZ := hide (And.intro hZ hbb)
          clear hT hZ hbb
          go_wp2_with (fail)
          refine (unhide HC _).mono ?_
          rintro e w1 ⟨rfl, hn⟩
          obtain ⟨W5, f1, f2, f3, f4, HM1⟩ := unhide F w1 hn
          clear hn F HC
          go_wp2
          go_roundg r.length
          case measure => simp
          case rel => exact ⟨w1.heap.size, r, Z, bb, rfl, rfl, rfl, rfl, HZ, HM1⟩
        | none =>
          have facts : ∀ w1, (∃ n, w1 = wr.drewN n) → ∃ W5, w1.cell? ⟨b, 0, none⟩ = some (.map none) ∧ w1.frozen? ⟨b, 0, none⟩ = false ∧ b < w1.heap.size ∧ (Instr.lookup 51 (.map none) (.string (bs t)) false).run Try.prog w1 = .ok (.pointer none) w1 ∧
              (w1.setCell ⟨b, 0, none⟩ (.map (some w1.heap.size))).cell? ⟨b, 0, none⟩ = some (.map (some w1.heap.size)) ∧ 
              (Instr.mapUpdate 51 (.map (some w1.heap.size)) (.string (bs t)) (.pointer (some ⟨w1.heap.size + 1, 0, none⟩))).run Try.prog (((w1.setCell ⟨b, 0, none⟩ (.map (some w1.heap.size))).alloc (.map #[] 0)).alloc (.cells #[.map none, .bool false] 53)) = .ok () W5 ∧ Hid (Mem B root L p w W5 (w1.heap.size + 1) r) := by
            rintro w1 ⟨n, rfl⟩
            have hI1 := inv_draw hI n
            have hI2 := hI1.addMap hBs hb hm
            have hsz : (((wr.drewN n).setCell ⟨b, 0, none⟩ (.map (some (wr.drewN n).heap.size))).alloc (.map #[] 0)).heap.size = (wr.drewN n).heap.size + 1 := by simp [World.setCell]
            have hmq : (if q = q then some (wr.drewN n).heap.size else mp q) = some (wr.drewN n).heap.size := by rw [if_pos rfl]
            have hmap := (hI2.maps q _ hmq).2
            obtain ⟨o, hrun, ⟨es, c, ho⟩, hput⟩ := run_put (w := (((wr.drewN n).setCell ⟨b, 0, none⟩ (.map (some (wr.drewN n).heap.size))).alloc (.map #[] 0)).alloc (.cells #[.map none, .bool false] 53)) (hmap.of_block (Below.heap_alloc _ _ _ hmap.lt)) t
              (((wr.drewN n).setCell ⟨b, 0, none⟩ (.map (some (wr.drewN n).heap.size))).alloc (.map #[] 0)).heap.size hk
            have hI5 := hI2.addChild (by rw [hsz]; exact Nat.le_succ_of_le hBs) hb hmq hk hput
            rw [hsz] at hrun hI5
            refine ⟨_, by have := (cell_of hI1 hb).1; rw [hm] at this; exact this, frozen_of hI1 hb 0, hbl, ?_, ?_, hrun 0, q ++ [t], _, _, en, by simpa using hq, ?_, hI5, mid_new hMid, ?_⟩
            · exact run_look_nil _ _
            · exact World.cell?_of_block (w := ((wr.drewN n).setCell ⟨b, 0, none⟩ (.map (some (wr.drewN n).heap.size)))) rfl |>.trans (by
                have h2 := heap_setCell_same (wr.drewN n) b 0 _ _ (.map (some (wr.drewN n).heap.size)) (hI1.node q b hb).2
                unfold World.cell?; rw [h2]; rfl)
            · show (if q ++ [t] = q ++ [t] then some _ else nd _) = _
              rw [if_pos rfl]
            · refine below_setBlock (((Below.setCell (below_drewN hBel n) (hI.node q b hb).1 _).alloc ?_ _).alloc ?_ _) hBs o
              · simpa [World.setCell] using hBs
              · rw [hsz]; exact Nat.le_succ_of_le hBs
          have F := hide facts
          clear facts hI hMid hBel HM HY hq hb hmb hY hk hcut hBs hlen hTt hm
          obtain ⟨T, hT⟩ : ∃ T, T = bs t := ⟨_, rfl⟩
          obtain ⟨Z, hZ⟩ : ∃ Z, Z = bs (join r) := ⟨_, rfl⟩
          obtain ⟨bb, hbb⟩ : ∃ bb, bb = !r.isEmpty := ⟨_, rfl⟩
          rw [← hT] at F
          rw [← hT, ← hZ, ← hbb] at HC
          have HZ := hide (And.intro hZ hbb)
          clear hT hZ hbb
          go_wp2_with (fail)
          refine (unhide HC _).mono ?_
          rintro e w1 ⟨rfl, hn⟩
          obtain ⟨W5, f1, f2, f3, f4, f5, f6, HM1⟩ := unhide F w1 hn
          clear hn F HC
          go_wp2
          go_roundg r.length
          case measure => simp
          case rel => exact ⟨w1.heap.size + 1, r, Z, bb, rfl, rfl, rfl, rfl, HZ, HM1⟩
end Go.Proofs.Qxb6602990a.Leaf
