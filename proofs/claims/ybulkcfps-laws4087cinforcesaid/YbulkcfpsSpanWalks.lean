/- The walks of LawS4087CInForce's callees: the search's closure, inForce, InForce, span; Clone and Sort restated. -/
import Derived.Test.YbulkcfpsShelf
import Derived.Test.YbulkcfpsSpanLaw
import Derived.WalkKit
import Derived.ProofKit
import Derived.WalkSpells
import Derived.WalkLawsBesides
import Derived.RegionTactic
import Derived.Below
import Derived.Sort.OwnSortedInts
namespace Go.Proofs.Ybulkcfps.lawS4087CInForce
open Go.ChangeShapes Go.WideShapes Go.ChangeAt Go.RowKit Go.Shelf Go.Lib Go.Sort

set_option maxHeartbeats 1000000 in
theorem closure (bf ba gf n cap : Nat) (x y : Int) (i : Nat) (W : World) (hi : i < n)
    (ha : W.cell? ⟨bf, 0, none⟩ = some (.slice (some ⟨gf, 0, none⟩) n cap)) (hx : W.cell? ⟨ba, 0, none⟩ = some (.int .i64 x)) (hc : W.cell? ⟨gf, i * 5, none⟩ = some (.int .i64 y)) :
    Calls Yba.prog 28 (#[.int .i64 i] ++ #[.pointer (some ⟨bf, 0, none⟩), .pointer (some ⟨ba, 0, none⟩)]) W fun e w' => e = .returned (.bool (decide (x < y))) ∧ ∃ q, w' = W.drewN q := by
  have hiz : (i : Int) < (n : Int) := by omega
  go_enter Yba.func28, Yba.ntmps28
  go_wp2
  go_region
  all_goals go_wp2
  all_goals go_ret
  all_goals exact ⟨rfl, 1, rfl⟩

theorem enters28 (args : Array Value) (w : World) : (callFunc 28 args).run Yba.prog w = .ok (.enter 28 args) w := enters_of Yba.func28 (by kernel_rfl) rfl args w

set_option maxHeartbeats 1000000 in
/-- replay.inForce at the frees whose At's are d: c of them are at or before x: the last of those, or the first. -/
theorem inForce_any (gf n cap c : Nat) (x : Int) (d : Nat → Int) (w : World) (hn : n ≤ 1024) (hg : gf < w.heap.size)
    (hc : ∀ i, i < n → w.cell? ⟨gf, i * 5, none⟩ = some (.int .i64 (d i))) (hcn : c ≤ n) (h1 : ∀ i, i < c → d i ≤ x) (h2 : ∀ i, c ≤ i → i < n → x < d i) :
    Calls Yba.prog 15 #[.slice (some ⟨gf, 0, none⟩) n cap, .int .i64 x] w fun e w' => e = .returned (.int .i64 ((c - 1 : Nat) : Int)) ∧ Below w.heap.size w w' := by
  obtain ⟨W0, hW0⟩ : ∃ W0, W0 = (w.alloc (.cells #[.slice (some ⟨gf, 0, none⟩) n cap] 35)).alloc (.cells #[.int .i64 x] 2) := ⟨_, rfl⟩
  have hsize : W0.heap.size = w.heap.size + 1 + 1 := by rw [hW0]; simp
  have ca : W0.cell? ⟨w.heap.size, 0, none⟩ = some (.slice (some ⟨gf, 0, none⟩) n cap) := by rw [hW0]; exact cell_alloc_sl _ (cell_new_sl w _ _)
  have cx : W0.cell? ⟨w.heap.size + 1, 0, none⟩ = some (.int .i64 x) := by rw [hW0]; have := cell_new_sl (w.alloc (.cells #[.slice (some ⟨gf, 0, none⟩) n cap] 35)) (.int .i64 x) 2; rwa [World.size_alloc] at this
  have cc : ∀ i, i < n → W0.cell? ⟨gf, i * 5, none⟩ = some (.int .i64 (d i)) := fun i hi => by rw [hW0]; exact cell_alloc_sl _ (cell_alloc_sl _ (hc i hi))
  have hS := Any.sort_Search Yba.laysSearch 28 #[.pointer (some ⟨w.heap.size, 0, none⟩), .pointer (some ⟨w.heap.size + 1, 0, none⟩)] n (fun i => decide (x < d i)) W0 enters28 (by omega)
    (fun m os i hi => (closure w.heap.size (w.heap.size + 1) gf n cap x (d i) i _ hi (cell_grown (by simp [hsize]; omega) ca m os) (cell_grown (by simp [hsize]) cx m os) (cell_grown (by simp [hsize]; omega) (cc i hi) m os)).mono
      fun _ _ ⟨he, q, hq⟩ => ⟨he, q, #[], by rw [hq, grow_empty]⟩)
    (fun a b hab hb ha => by
      simp only [decide_eq_true_eq] at ha ⊢
      by_cases hbc : b < c
      · have := h1 a (by omega); omega
      · exact h2 b (by omega) hb)
  change Calls Yba.prog 27 _ _ _ at hS
  have ecnt : (List.range n).countP (fun i => !decide (x < d i)) = c := by
    have hr : ∀ t, t < n → (List.range n)[t]! = t := fun t ht => by rw [getElem!_pos _ t (by simpa using ht)]; simp
    refine Lib.countP_boundary _ (List.range n) c (by simpa using hcn) (fun t ht => ?_) (fun t h3 h4 => ?_)
    · rw [hr t (by omega)]
      have := h1 t ht
      simp; omega
    · rw [hr t (by simpa using h4)]
      have := h2 t h3 (by simpa using h4)
      simp; omega
  rw [ecnt] at hS
  clear hc ca cx cc h1 h2 ecnt
  go_enter Yba.func15, Yba.ntmps15
  go_wp2_with (go_at_call 27; rw [← hW0]; refine hS.mono ?_; rintro e w' ⟨rfl, q, os, rfl⟩)
  go_ret
  refine ⟨?_, ?_⟩
  · rw [show max ((c : Int) - 1) 0 = ((c - 1 : Nat) : Int) by omega]; rfl
  · have hB0 : Below w.heap.size w W0 := by rw [hW0]; exact ((Below.refl _ w).alloc (Nat.le_refl _) _).alloc (by simp) _
    rw [← hW0]
    exact hB0.trans (below_grown_sl w.heap.size W0 q os (by omega))

set_option maxHeartbeats 1000000 in
/-- replay.InForce: the At of that free, and the At of the next, or the greatest int64. -/
theorem InForce_any (gf n cap c m : Nat) (x u : Int) (d : Nat → Int) (w : World) (hn : n ≤ 1024) (hn0 : 0 < n) (hg : gf < w.heap.size)
    (hc : ∀ i, i < n → w.cell? ⟨gf, i * 5, none⟩ = some (.int .i64 (d i))) (hcn : c ≤ n) (h1 : ∀ i, i < c → d i ≤ x) (h2 : ∀ i, c ≤ i → i < n → x < d i)
    (hm : m = c - 1) (hu : (m + 1 < n ∧ u = d (m + 1)) ∨ (n ≤ m + 1 ∧ u = 9223372036854775807)) :
    Calls Yba.prog 12 #[.slice (some ⟨gf, 0, none⟩) n cap, .int .i64 x] w fun e w' => e = .returned (.tuple #[.int .i64 (d m), .int .i64 u]) ∧ Below w.heap.size w w' := by
  have hI := inForce_any gf n cap c x d w hn hg hc hcn h1 h2
  rw [← hm] at hI
  have hmn : m < n := by omega
  have C0 := hc m hmn
  have C1 : m + 1 < n → w.cell? ⟨gf, (m + 1) * 5, none⟩ = some (.int .i64 (d (m + 1))) := hc (m + 1)
  clear hc h1 h2 hm
  rcases hu with ⟨hlt, rfl⟩ | ⟨hlt, rfl⟩
  · have C1 := C1 hlt
    generalize d m = y0 at *
    generalize d (m + 1) = y1 at *
    have hz : (m : Int) + 1 < (n : Int) := by omega
    go_enter Yba.func12, Yba.ntmps12
    go_wp2_with (go_at_call 15; refine hI.mono ?_; rintro e w' ⟨rfl, hb⟩; have q0 := (hb.cell (p := ⟨gf, m * 5, none⟩) hg).trans C0; have q1 := (hb.cell (p := ⟨gf, (m + 1) * 5, none⟩) hg).trans C1)
    go_ret2
    exact ⟨rfl, by assumption⟩
  · clear C1
    generalize d m = y0 at *
    have hz : ¬ (m : Int) + 1 < (n : Int) := by omega
    go_enter Yba.func12, Yba.ntmps12
    go_wp2_with (go_at_call 15; refine hI.mono ?_; rintro e w' ⟨rfl, hb⟩; have q0 := (hb.cell (p := ⟨gf, m * 5, none⟩) hg).trans C0)
    go_ret2
    exact ⟨rfl, by assumption⟩


set_option maxHeartbeats 1000000 in
/-- queue.span, the frees not nil. -/
theorem span_any (gf n cap c m : Nat) (a b x u : Int) (q : Bool) (d : Nat → Int) (w : World) (hn : n ≤ 1024) (hn0 : 0 < n) (hg : gf < w.heap.size)
    (hc : ∀ i, i < n → w.cell? ⟨gf, i * 5, none⟩ = some (.int .i64 (d i))) (hcn : c ≤ n) (h1 : ∀ i, i < c → d i ≤ x) (h2 : ∀ i, c ≤ i → i < n → x < d i)
    (hm : m = c - 1) (hu : (m + 1 < n ∧ u = d (m + 1)) ∨ (n ≤ m + 1 ∧ u = 9223372036854775807)) :
    Calls Yba.prog 9 #[.agg #[.int .i64 a, .int .i64 b, .slice (some ⟨gf, 0, none⟩) n cap, .bool q], .int .i64 x] w fun e w' => e = .returned (.tuple #[.int .i64 (d m), .int .i64 u]) ∧ Below w.heap.size w w' := by
  have he := fun a n c w => Lib.run_eql_slice_nil (P := Yba.prog) w 35 47 a n c 0 0 Yba.underlying35
  have hI := fun o => InForce_any gf n cap c m x u d (w.alloc o) hn hn0 (by simp; omega) (fun i hi => cell_alloc_sl o (hc i hi)) hcn h1 h2 hm hu
  clear hc h1 h2 hm hu
  generalize d m = y at *
  go_enter Yba.func9, Yba.ntmps9
  go_wp2_with (go_at_call 12; refine (hI _).mono ?_; rintro e w' ⟨rfl, hb⟩)
  go_ret2
  exact ⟨rfl, ((Below.refl _ _).alloc (Nat.le_refl _) _).trans (‹Below _ _ _›.mono (by simp))⟩

/-- slices.Clone at a slice of int64 that is not nil. -/
theorem clone_any (b off n c : Nat) (zs : List Int) (w : World) (hn : n ≤ 1024) (hn0 : 0 < n) (hz : n ≤ zs.length) (hc : ∀ j, j < zs.length → w.cell? ⟨b, off + j, none⟩ = some (.int .i64 (zs.getD j 0))) :
    Calls Yba.prog 10 #[.slice (some ⟨b, off, none⟩) n c] w fun e w' => ∃ g cap, e = .returned (.slice (some ⟨g, 0, none⟩) n cap) ∧ Holds (Value.int .i64) w' g 0 (zs.take n).toArray ∧ w.heap.size ≤ g ∧ g < w'.heap.size ∧ Below w.heap.size w w' := by
  have h := AnyG.slices_Clone_int Yba.laysClone b off n c zs w hz (by omega) hc
  change Calls Yba.prog 10 _ _ _ at h
  refine h.mono ?_
  rintro e w' ⟨v', rfl, hown, hnn, hb⟩
  rcases hown.2 with ⟨_, h0⟩ | ⟨g, cap, cur, rfl, hbase, hblk, h1, h2, h3, h4⟩
  · omega
  · refine ⟨g, cap, rfl, holds_of_blockI hblk ?_, hbase, (Array.getElem?_eq_some_iff.1 hblk).1, hb⟩
    rw [show (zs.take n).length = n * 1 by simp; omega]
    exact h4

theorem length_ms (l : List Int) : (l.mergeSort fun x y => decide (x ≤ y)).length = l.length := List.length_mergeSort _

/-- slices.Sort at it. -/
theorem sort_any (g cap : Nat) (zs : List Int) (w : World) (hn : zs.length ≤ 1024) (hH : Holds (Value.int .i64) w g 0 zs.toArray) (hg : g < w.heap.size) :
    Calls Yba.prog 11 #[.slice (some ⟨g, 0, none⟩) zs.length cap] w fun e w' => e = .returned (.tuple #[]) ∧ (∀ i, i < zs.length → w'.cell? ⟨g, i, none⟩ = some (.int .i64 ((zs.mergeSort fun x y => decide (x ≤ y)).getD i 0))) ∧ g < w'.heap.size ∧ w.grownBy w' (some g) := by
  have h := AnyM.slices_Sort_int Yba.laysSort g 0 cap zs w hH hg (by omega)
  change Calls Yba.prog 11 _ _ _ at h
  refine h.mono ?_
  rintro e w' ⟨rfl, nn, os, rfl⟩
  have hgr := grownBy_sortedI (w := w) (g := g) (n := nn) (os := os) (zs.mergeSort fun x y => decide (x ≤ y)).toArray
  refine ⟨rfl, fun i hi => ?_, Nat.lt_of_lt_of_le hg hgr.size, hgr⟩
  have hl := length_ms zs
  have h2 := cell?_putRow (Value.int .i64) (Sort.ahead w nn) g 0 zs.toArray (zs.mergeSort fun x y => decide (x ≤ y)).toArray hH (by simp) i (by simp; omega)
  rw [Nat.zero_add] at h2
  rw [cell?_grow _ _ _ (by simpa using hg), h2, SpanLaw.toArray_bang _ _ (by omega)]

end Go.Proofs.Ybulkcfps.lawS4087CInForce
