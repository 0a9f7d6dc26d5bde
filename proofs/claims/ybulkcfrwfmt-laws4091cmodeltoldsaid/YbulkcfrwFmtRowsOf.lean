/- Seat b4091aF: rows of the call's own under the library's sorts, compactions and clones: the contracts of the library's functions at this program's sets. -/
import Derived.Test.YbulkcfrwFmtPlain
import Derived.Test.YbulkcfrwFmtShelf
import Derived.Shelf.SortM.SortNone
import Derived.Laws.AppendOwnNone
namespace Go.Proofs.YbulkcfrwFmt.Walks
open Go.RowKit Plain Go.Sort Go.Lib

theorem heap_put {α : Type} [Inhabited α] (enc : α → Value) (w : World) (q g off : Nat) (d : Array α) (os : Array Obj) (k : Nat) (hk : k < w.heap.size) (hne : k ≠ g) :
    (grow (putRow enc (Sort.ahead w q) g off d) os).heap[k]? = w.heap[k]? := by
  rw [heap_grow_old _ _ (by simpa using hk)]
  show (w.heap.modify g _)[k]? = _
  rw [Array.getElem?_modify, if_neg (by omega)]
theorem heap_put_same {α : Type} [Inhabited α] (enc : α → Value) (w : World) (q g off : Nat) (d : Array α) (os : Array Obj) {cur : Array Value} {T : TypeId} {fz : Nat × Nat} (hg : w.heap[g]? = some (.cells cur T fz)) :
    (grow (putRow enc (Sort.ahead w q) g off d) os).heap[g]? = some (.cells (putCells enc off d cur) T fz) := by
  rw [heap_grow_old _ _ (by have := (Array.getElem?_eq_some_iff.1 hg).1; simpa using this)]
  show (w.heap.modify g _)[g]? = _
  rw [Array.getElem?_modify, if_pos rfl, hg]
  rfl
theorem below_put {α : Type} [Inhabited α] (enc : α → Value) (w : World) (q g off : Nat) (d : Array α) (os : Array Obj) (B : Nat) (hB : B ≤ g) (hg : g < w.heap.size) :
    Below B w (grow (putRow enc (Sort.ahead w q) g off d) os) :=
  ⟨rfl, rfl, rfl, by simp, fun k hk => heap_put enc w q g off d os k (by omega) (by omega)⟩
theorem kt_put {α : Type} [Inhabited α] (enc : α → Value) (w : World) (q g off : Nat) (d : Array α) (os : Array Obj) {T : TypeId} (hg : Typ w g T) (S : List TypeId) (hT : T ∉ S) :
    KT S w (grow (putRow enc (Sort.ahead w q) g off d) os) := fun b T' hb hT' =>
  heap_put enc w q g off d os b hb.lt fun e => by subst e; exact hT (hb.one hg ▸ hT')
/-- a row of the call's own, its cells laid anew -/
theorem owns_put {α : Type} [Inhabited α] (enc : α → Value) {w : World} {base g n c : Nat} {T : TypeId} {vs : List Value} (h : w.ownsRow base T 1 (.slice (some ⟨g, 0, none⟩) n c) n vs) (q : Nat) (d : Array α) (hd : d.size = n) (os : Array Obj) :
    (grow (putRow enc (Sort.ahead w q) g 0 d) os).ownsRow base T 1 (.slice (some ⟨g, 0, none⟩) n c) n (d.toList.map enc) := by
  refine ⟨by simp [hd], .inr ?_⟩
  rcases h.2 with ⟨h0, _⟩ | ⟨g', cap, cur, e, hbase, hb, h1, h2, h3, h4⟩
  · cases h0
  · cases e
    refine ⟨g, c, putCells enc 0 d cur, rfl, hbase, heap_put_same enc w q g 0 d os hb, h1, h2, by simp [putCells, h3], ?_⟩
    apply List.ext_getElem
    · simp [putCells, h3, hd]; omega
    · intro i hi1 hi2
      have hi : i < d.size := by simpa using hi2
      simp [putCells, hi]
/-- what a row of the call's own holds -/
theorem owns_holds {α : Type} [Inhabited α] (enc : α → Value) {w : World} {base g n c : Nat} {T : TypeId} {ss : List α} (h : w.ownsRow base T 1 (.slice (some ⟨g, 0, none⟩) n c) n (ss.map enc)) :
    Holds enc w g 0 ss.toArray ∧ ss.length = n ∧ base ≤ g ∧ g < w.heap.size ∧ n ≤ c ∧ Typ w g T := by
  have hl : ss.length = n := by have := h.1; simpa using this
  rcases h.2 with ⟨h0, _⟩ | ⟨g', cap, cur, e, hbase, hb, h1, h2, h3, h4⟩
  · cases h0
  · cases e
    refine ⟨fun j hj => ?_, hl, hbase, (Array.getElem?_eq_some_iff.1 hb).1, h1, ⟨_, _, hb⟩⟩
    have hj' : j < ss.length := by simpa using hj
    have := h.cellAt j (by omega)
    rw [Nat.zero_add, this]
    refine ⟨by simp [hj'], ?_⟩
    simp [World.frozen?, hb]

/-- slices.Sort at a row of the call's own -/
theorem sort_row {w : World} {base n : Nat} {v : Value} {ss : List (List UInt8)} (h : w.ownsRow base 9 1 v n (ss.map encStr)) (hn : n ≤ 65536) :
    Calls Ybaf.prog 15 #[v] w fun e w' => e = .returned (.tuple #[]) ∧ w'.ownsRow base 9 1 v n ((ss.mergeSort fun x y => decide (x ≤ y)).map encStr) ∧ Below base w w' ∧ KT [22, 31] w w' := by
  have hl : ss.length = n := by have := h.1; simpa using this
  by_cases h0 : n = 0
  · subst h0
    obtain ⟨a, c, rfl, -⟩ := owns_row h
    have e : ss = [] := List.length_eq_zero_iff.1 hl
    subst e
    exact (AnyM.slices_Sort_string_none Ybaf.laysSort a c w).mono fun e w' ⟨h1, h2⟩ => ⟨h1, by subst h2; simpa using h, by subst h2; exact Below.refl _ _, by subst h2; exact .below (Below.refl _ _)⟩
  · rcases h.2 with ⟨_, e⟩ | ⟨g, cap, cur, rfl, -⟩
    · exact absurd e h0
    · obtain ⟨hH, -, hb, hg, hc, ht⟩ := owns_holds encStr h
      have key := AnyM.slices_Sort_string Ybaf.laysSort g 0 cap ss w hH hg (by omega)
      rw [hl] at key
      refine key.mono fun e w' ⟨h1, q, os, h2⟩ => ⟨h1, ?_, ?_, ?_⟩
      · subst h2
        exact owns_put encStr h q _ (by simp [hl]) os
      · subst h2
        exact below_put _ _ _ _ _ _ _ _ hb hg
      · subst h2
        exact kt_put _ _ _ _ _ _ _ ht _ (by decide)

/-- slices.Compact at a row of the call's own, sorted from letters of mask m -/
theorem compact_row {w : World} {base n : Nat} {v : Value} {xs : List Nat} {m : Nat} (h : w.ownsRow base 9 1 v n ((((xs.map lett).mergeSort fun x y => decide (x ≤ y))).map encStr)) (hn : n ≤ 65536) (hm : m < 256) (hx : ∀ i, i ∈ xs ↔ i ∈ plc m) :
    Calls Ybaf.prog 16 #[v] w fun e w' => ∃ v', e = .returned v' ∧ MS w' v' m ∧ Below base w w' ∧ KT [22, 31] w w' := by
  have hnorm := norm xs m hx
  generalize hss : ((xs.map lett).mergeSort fun x y => decide (x ≤ y)) = ss at *
  have hl : ss.length = n := by have := h.1; simpa using this
  have hpl : ∀ x ∈ plc m, x < 8 := fun x hx => plc_lt hx
  by_cases h0 : n = 0
  · subst h0
    obtain ⟨a, c, rfl, -, -, hnice⟩ := owns_row h
    have e : ss = [] := List.length_eq_zero_iff.1 hl
    subst e
    have hp : plc m = [] := by
      have : (plc m).map lett = [] := by rw [← hnorm]; rfl
      simpa using this
    exact (AnyG.slices_Compact_string_empty Ybaf.laysCompact a c w).mono fun e w' ⟨h1, h2⟩ => ⟨_, h1, ⟨a, 0, c, rfl, ⟨by rw [hp]; rfl, by omega, hpl, fun h => by omega⟩, hnice, hm⟩, by subst h2; exact Below.refl _ _, by subst h2; exact .below (Below.refl _ _)⟩
  · rcases h.2 with ⟨_, e⟩ | ⟨g, cap, cur, rfl, -⟩
    · exact absurd e h0
    · obtain ⟨hH, -, hb, hg, hc, ht⟩ := owns_holds encStr h
      have key := AnyG.slices_Compact_string Ybaf.laysCompact g 0 cap ss w hH (by omega) (by omega)
      rw [hl, hnorm] at key
      have hle : (Lib.compact ss).length ≤ n := by
        unfold Lib.compact Lib.compactUpTo
        rw [List.length_map]
        refine Nat.le_trans (List.length_filter_le _ _) ?_
        simp [hl]
      rw [hnorm] at hle
      simp only [List.length_map] at key hle
      refine key.mono fun e w' ⟨h1, q, h2⟩ => ⟨_, h1, ?_, ?_, ?_⟩
      · have hp := owns_put encStr h q ((plc m).map lett ++ List.replicate (n - (plc m).length) []).toArray (by simp; omega) #[]
        rw [grow_empty, ← h2] at hp
        obtain ⟨hH', -, -, -, -, ht'⟩ := owns_holds encStr hp
        refine ⟨_, _, _, rfl, ⟨rfl, Nat.le_trans (plc_le m) (by omega), hpl, fun hpos => ⟨g, 0, rfl, ht', fun i hi => ?_⟩⟩, ⟨(fun h => by cases h), (fun ad h => by cases h; exact ⟨_, _, rfl⟩)⟩, hm⟩
        rw [(hH' i (by simp; omega)).1]
        simp [hi, cell, List.getElem!_eq_getElem?_getD, List.getElem?_append]
      · have := below_put encStr w q g 0 ((plc m).map lett ++ List.replicate (n - (plc m).length) []).toArray #[] base hb hg
        rw [grow_empty, ← h2] at this
        exact this
      · have := kt_put encStr w q g 0 ((plc m).map lett ++ List.replicate (n - (plc m).length) []).toArray #[] ht [22, 31] (by decide)
        rw [grow_empty, ← h2] at this
        exact this

theorem info_parts {T : TypeId} {z : Value} {b : Nat} (h : (Ybaf.prog.info? T).map (fun i => (i.zero, i.size, i.bytes)) = some (some z, 1, b)) : ∃ i, Ybaf.prog.info? T = some i ∧ i.zero = some z ∧ i.size = 1 ∧ i.bytes = b := by
  cases hh : Ybaf.prog.info? T with
  | none => rw [hh] at h; cases h
  | some i =>
    rw [hh] at h
    simp only [Option.map_some, Option.some.injEq, Prod.mk.injEq] at h
    exact ⟨i, rfl, h.1, h.2.1, h.2.2⟩
theorem facts22 : (Ybaf.prog.info? 22).map (fun i => (i.zero, i.size, i.bytes)) = some (some (.slice none 0 0), 1, 24) := by kernel_rfl
theorem facts9 : (Ybaf.prog.info? 9).map (fun i => (i.zero, i.size, i.bytes)) = some (some (.string ByteArray.empty), 1, 16) := by kernel_rfl

theorem cells9 : Ybaf.prog.cellsOf 9 = 1 := by kernel_rfl
theorem cells22 : Ybaf.prog.cellsOf 22 = 1 := by kernel_rfl
theorem size9 (w : World) : (Go.sizeOf 9).run Ybaf.prog w = .ok 1 w := by
  obtain ⟨i, hi, _⟩ := info_parts facts9
  rw [run_sizeOf w hi, cells9]
theorem size22 (w : World) : (Go.sizeOf 22).run Ybaf.prog w = .ok 1 w := by
  obtain ⟨i, hi, _⟩ := info_parts facts22
  rw [run_sizeOf w hi, cells22]
/-- slices.Clone at a set -/
theorem clone18_any (w : World) (a : Option Addr) (n c : Nat) (m : Nat) (h : SL w a n (plc m)) (hn : Nice a n c) :
    Calls Ybaf.prog 18 #[.slice a n c] w fun e w' => ∃ v, e = .returned v ∧ w'.ownsRow w.heap.size 9 1 v n ((plc m).map cell) ∧ Below w.heap.size w w' := by
  obtain ⟨h1, h2⟩ := hn
  cases a with
  | none =>
    obtain ⟨rfl, rfl⟩ := h1 rfl
    have e : plc m = [] := List.length_eq_zero_iff.1 h.1
    rw [e]
    exact (AnyE.slices_Clone_nil Ybaf.laysClone18 0 0 w).mono fun e w' ⟨h1, h2⟩ => ⟨_, h1, World.ownsRow_nil _ _ _ _, by subst h2; exact Below.refl _ _⟩
  | some ad =>
    obtain ⟨b, off, rfl⟩ := h2 ad rfl
    obtain ⟨i, hi, hz, hs, hb⟩ := info_parts facts9
    have hbig := h.2.1
    exact (AnyE.slices_Clone Ybaf.laysClone18 i _ 1 16 hi hz hs hb rfl (by decide) size9 b off n c ((plc m).map cell) w (by simp [h.1]) (by unfold maxLen; omega) (by omega) (fun j u hu => by have := cells_SL h _ rfl j u hu; rwa [Addr.add_lit] at this) (one_cells _)).mono fun e w' ⟨v, h1, h2, _, h4⟩ => ⟨v, h1, h2, h4⟩
/-- slices.Clone at a slice of sets -/
theorem clone17_any (w : World) (a : Option Addr) (n c : Nat) (V : Nat → Value) (ms : List Nat) (h : SS w a n V ms) (hn : Nice a n c) :
    Calls Ybaf.prog 17 #[.slice a n c] w fun e w' => ∃ v vs, e = .returned v ∧ w'.ownsRow w.heap.size 22 1 v n vs ∧ (∀ i, i < n → MS w' (vs.getD i undef) (ms.getD i 0)) ∧ Below w.heap.size w w' := by
  obtain ⟨h1, h2⟩ := hn
  cases a with
  | none =>
    obtain ⟨rfl, rfl⟩ := h1 rfl
    exact (AnyE.slices_Clone_nil Ybaf.laysClone17 0 0 w).mono fun e w' ⟨h1, h2⟩ => ⟨_, [], h1, World.ownsRow_nil _ _ _ _, fun i hi => absurd hi (by omega), by subst h2; exact Below.refl _ _⟩
  | some ad =>
    obtain ⟨b, off, rfl⟩ := h2 ad rfl
    obtain ⟨i, hi, hz, hs, hb⟩ := info_parts facts22
    obtain ⟨l1, l2, l3, l4⟩ := h
    have hV : ∀ j u, ((List.range n).map V)[j]? = some u → j < n ∧ u = V j := fun j u hu => by
      have hj : j < n := by have := (List.getElem?_eq_some_iff.1 hu).1; simpa using this
      refine ⟨hj, ?_⟩
      rw [List.getElem?_map, List.getElem?_range hj] at hu
      simpa using hu.symm
    exact (AnyE.slices_Clone Ybaf.laysClone17 i _ 1 24 hi hz hs hb rfl (by decide) size22 b off n c ((List.range n).map V) w (by simp) (by unfold maxLen; omega) (by omega)
      (fun j u hu => by
        obtain ⟨hj, rfl⟩ := hV j u hu
        obtain ⟨b', off', e, _, hc⟩ := l3 (by omega)
        cases e
        exact hc j hj)
      (fun u hu => by
        obtain ⟨j, hj, rfl⟩ := List.mem_map.1 hu
        obtain ⟨a', n', c', e, _⟩ := l4 j (by simpa using hj)
        rw [e]; rfl)).mono fun e w' ⟨v, h1, h2, _, h4⟩ => ⟨v, _, h1, h2, fun i hi => by
          have : ((List.range n).map V).getD i undef = V i := by simp [List.getD, hi]
          rw [this]
          exact (l4 i hi).later h4, h4⟩
end Go.Proofs.YbulkcfrwFmt.Walks
