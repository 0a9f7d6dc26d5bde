/- Seat b4091aF: the kit for LawS4091CModel: the rows that make lays, stores into them, and counting. -/
import Derived.Test.YbulkcfrwFmtModel
import Derived.Laws.MakeOwn
namespace Go.Proofs.YbulkcfrwFmt.Walks
open Go.RowKit Plain Go.Sort Go.Lib

def setrow (n : Nat) : Array Value := madeCells #[.slice none 0 0] n
theorem setrow_eq (n : Nat) : (setrow n).toList = List.replicate n (.slice none 0 0) := by
  apply List.ext_getElem
  · simp [setrow, madeCells]
  · intro i h1 h2
    simp [setrow, madeCells, Nat.mod_one]
theorem make30 (n : Nat) (hn : n ≤ 1024) (w : World) : (Instr.makeSlice 30 (.int .i64 n) (.int .i64 n)).run Ybaf.prog w = .ok (.slice (some ⟨w.heap.size, 0, none⟩) n n) (w.alloc (.cells (setrow n) 31)) := by
  obtain ⟨i, hi, hz, hs, hb⟩ := info_parts facts31
  have h := run_make (P := Ybaf.prog) w 30 31 i _ Ybaf.underlying30 hi hz .i64 .i64 n n (by omega) (by omega) (by rw [hb]; omega) (by omega)
  rw [hs] at h
  simpa [setrow, Value.cells] using h
theorem make31 (n : Nat) (hn : n ≤ 1024) (w : World) : (Instr.makeSlice 31 (.int .i64 n) (.int .i64 n)).run Ybaf.prog w = .ok (.slice (some ⟨w.heap.size, 0, none⟩) n n) (w.alloc (.cells (setrow n) 22)) := by
  obtain ⟨i, hi, hz, hs, hb⟩ := info_parts facts22
  have h := run_make (P := Ybaf.prog) w 31 22 i _ Ybaf.underlying31 hi hz .i64 .i64 n n (by omega) (by omega) (by rw [hb]; omega) (by omega)
  rw [hs] at h
  simpa [setrow, Value.cells] using h
theorem made_owns (w : World) (base n : Nat) (e : TypeId) (hb : base ≤ w.heap.size) (hn : n ≤ 1024) : (w.alloc (.cells (setrow n) e)).ownsRow base e 1 (.slice (some ⟨w.heap.size, 0, none⟩) n n) n (List.replicate n (.slice none 0 0)) := by
  refine ⟨by simp, .inr ⟨w.heap.size, n, setrow n, rfl, hb, heap_alloc_new w _, Nat.le_refl _, by unfold maxLen; omega, by simp [setrow, madeCells], ?_⟩⟩
  rw [setrow_eq]
  simp
/-- a store into a row of the call's own -/
theorem owns_set {w : World} {base g n c : Nat} {e : TypeId} {vs : List Value} (h : w.ownsRow base e 1 (.slice (some ⟨g, 0, none⟩) n c) n vs) (i : Nat) (v : Value) :
    (w.setCell ⟨g, i, none⟩ v).ownsRow base e 1 (.slice (some ⟨g, 0, none⟩) n c) n (vs.set i v) := by
  have hl : vs.length = n := by have := h.1; simpa using this
  refine ⟨by simp [hl], .inr ?_⟩
  rcases h.2 with ⟨h0, _⟩ | ⟨g', cap, cur, e', hbase, hb, h1, h2, h3, h4⟩
  · cases h0
  · cases e'
    refine ⟨g, c, cur.setIfInBounds i v, rfl, hbase, ?_, h1, h2, by simpa using h3, ?_⟩
    · rw [setCell_eq]
      show (w.heap.modify g _)[g]? = _
      rw [Array.getElem?_modify, if_pos rfl, hb]
      rfl
    · rw [Array.toList_setIfInBounds, ← h4]
      rw [List.take_set]
theorem kt_set {w : World} {g i : Nat} {e : TypeId} (hT : Typ w g e) (S : List TypeId) (he : e ∉ S) (v : Value) : KT S w (w.setCell ⟨g, i, none⟩ v) := fun b T hb hS =>
  Below.heap_setCell w ⟨g, i, none⟩ v b fun e' => by
    have e'' : b = g := e'
    subst e''
    exact he (hb.one hT ▸ hS)
theorem owns_typ {w : World} {base g n c : Nat} {e : TypeId} {vs : List Value} (h : w.ownsRow base e 1 (.slice (some ⟨g, 0, none⟩) n c) n vs) : Typ w g e ∧ base ≤ g ∧ ∀ i, i < n → w.cell? ⟨g, i, none⟩ = some (vs.getD i undef) ∧ w.frozen? ⟨g, i, none⟩ = false := by
  have hl : vs.length = n := by have := h.1; simpa using this
  have hcell := fun i (hi : i < n) => h.cellAt i (by omega)
  rcases h.2 with ⟨h0, _⟩ | ⟨g', cap, cur, e', hbase, hb, h1, h2, h3, h4⟩
  · cases h0
  · cases e'
    refine ⟨⟨_, _, hb⟩, hbase, fun i hi => ⟨?_, by simp [World.frozen?, hb]⟩⟩
    rw [hcell i hi]
    simp [List.getD, List.getElem?_eq_getElem (show i < vs.length by omega)]
theorem set_getD (vs : List Value) (i j : Nat) (v : Value) (hi : i < vs.length) : (vs.set i v).getD j undef = if j = i then v else vs.getD j undef := by
  by_cases e : j = i
  · subst e; simp [List.getD, hi]
  · rw [if_neg e]
    simp [List.getD, List.getElem?_set_ne (fun h => e h.symm)]

/-! ### counting -/
theorem length_le_of_subset : ∀ {l l' : List Nat}, l.Nodup → (∀ x ∈ l, x ∈ l') → l.length ≤ l'.length
  | [], _, _, _ => by simp
  | x :: l, l', h, hs => by
    rw [List.nodup_cons] at h
    have hx : x ∈ l' := hs x (by simp)
    have ih := length_le_of_subset (l := l) (l' := l'.erase x) h.2 fun y hy => by
      have hne : y ≠ x := fun e => h.1 (e ▸ hy)
      exact (List.mem_erase_of_ne hne).2 (hs y (by simp [hy]))
    rw [List.length_erase_of_mem hx] at ih
    have : 0 < l'.length := List.length_pos_of_mem hx
    simp only [List.length_cons]
    omega
/-- how many below k were seen -/
def cntTo (us : List Nat) (k : Nat) : Nat := ((List.range k).filter fun i => decide (i ∈ us)).length
theorem cntTo_succ (us : List Nat) (k : Nat) : cntTo us (k + 1) = cntTo us k + if k ∈ us then 1 else 0 := by
  unfold cntTo
  rw [List.range_succ, List.filter_append, List.length_append]
  congr 1
  by_cases h : k ∈ us <;> simp [h]
theorem cntTo_le (us : List Nat) (k : Nat) : cntTo us k ≤ k := by
  have := List.length_filter_le (fun i => decide (i ∈ us)) (List.range k)
  simpa [cntTo] using this
theorem cnt_eq (ms us : List Nat) (hp : ms.Pairwise fun a b => mcmp a b < 0) (hm : ∀ x ∈ ms, x < 256) (hs : ∀ x, x ∈ ms ↔ x ∈ us) : ms.length = cntTo us 256 := by
  have hnd : ms.Nodup := hp.imp fun {a b} h e => by
    subst e
    have : mcmp a a = 0 := cmpI_self _
    omega
  apply Nat.le_antisymm
  · exact length_le_of_subset hnd fun x hx => List.mem_filter.2 ⟨List.mem_range.2 (hm x hx), by simpa using (hs x).1 hx⟩
  · refine length_le_of_subset (List.Pairwise.filter _ List.nodup_range) fun x hx => (hs x).2 ?_
    have := (List.mem_filter.1 hx).2
    simpa using this
end Go.Proofs.YbulkcfrwFmt.Walks
