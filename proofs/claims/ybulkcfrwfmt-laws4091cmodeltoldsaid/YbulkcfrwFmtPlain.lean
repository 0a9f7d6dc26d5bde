/- Seat b4091aF: the plain functions on masks, and how sets, slices of sets and slices of those lie in memory. No program is named. -/
import Derived.Below
import Derived.Laws.Strings
import Derived.Lib.SlicesCompact
import Derived.Sort.EncStr
import Derived.ProofKit
namespace Go.Proofs.YbulkcfrwFmt.Plain
open Go.RowKit

/-! ### letters -/
/-- the one-letter string of place i: 'a' + i -/
def lett (i : Nat) : List UInt8 := [UInt8.ofNat (97 + i)]
/-- the places of a mask, rising -/
def plc (m : Nat) : List Nat := (List.range 8).filter fun i => m.testBit i
def pop (m : Nat) : Nat := (plc m).length

theorem mem_plc {m i : Nat} : i ∈ plc m ↔ i < 8 ∧ m.testBit i = true := by simp [plc]
theorem plc_lt {m i : Nat} (h : i ∈ plc m) : i < 8 := (mem_plc.1 h).1
theorem plc_sorted (m : Nat) : (plc m).Pairwise (· < ·) := List.Pairwise.filter _ List.pairwise_lt_range
theorem plc_le (m : Nat) : (plc m).length ≤ 8 := by
  have := List.length_filter_le (fun i => m.testBit i) (List.range 8)
  simpa [plc] using this
theorem pop_le (m : Nat) : pop m ≤ 8 := plc_le m

theorem pop_half {x : Nat} (h : x < 256) : pop x = x % 2 + pop (x / 2) := by
  have : ∀ y : Fin 256, pop y.1 = y.1 % 2 + pop (y.1 / 2) := by decide +kernel
  exact this ⟨x, h⟩
theorem pop_zero : pop 0 = 0 := by decide
theorem test_half {m : Nat} (h : m < 256) (k : Nat) (hk : k < 8) : m.testBit k = decide (m / 2 ^ k % 2 = 1) := by
  have : ∀ y : Fin 256, ∀ j : Fin 8, y.1.testBit j.1 = decide (y.1 / 2 ^ j.1 % 2 = 1) := by decide +kernel
  exact this ⟨m, h⟩ ⟨k, hk⟩
theorem lett_le {a b : Nat} (ha : a < 8) (hb : b < 8) : (lett a ≤ lett b) ↔ a ≤ b := by
  have : ∀ x : Fin 8, ∀ y : Fin 8, (lett x.1 ≤ lett y.1) ↔ x.1 ≤ y.1 := by decide
  exact this ⟨a, ha⟩ ⟨b, hb⟩
theorem lett_inj {a b : Nat} (ha : a < 8) (hb : b < 8) (h : lett a = lett b) : a = b := by
  have : ∀ x : Fin 8, ∀ y : Fin 8, lett x.1 = lett y.1 → x.1 = y.1 := by decide
  exact this ⟨a, ha⟩ ⟨b, hb⟩ h

/-! ### two rising lists with the same members are one -/
theorem rising_eq : ∀ {l l' : List Nat}, l.Pairwise (· < ·) → l'.Pairwise (· < ·) → (∀ x, x ∈ l ↔ x ∈ l') → l = l'
  | [], [], _, _, _ => rfl
  | [], b :: _, _, _, h => by have := (h b).2 (by simp); simp at this
  | a :: _, [], _, _, h => by have := (h a).1 (by simp); simp at this
  | a :: l, b :: l', h1, h2, h => by
    rw [List.pairwise_cons] at h1 h2
    have hab : a = b := by
      rcases List.mem_cons.1 ((h a).1 (by simp)) with e | e
      · exact e
      · rcases List.mem_cons.1 ((h b).2 (by simp)) with e' | e'
        · exact e'.symm
        · have := h1.1 b e'; have := h2.1 a e; omega
    subst hab
    have : l = l' := rising_eq h1.2 h2.2 fun x => by
      constructor
      · intro hx
        rcases List.mem_cons.1 ((h x).1 (by simp [hx])) with e | e
        · subst e; have := h1.1 x hx; omega
        · exact e
      · intro hx
        rcases List.mem_cons.1 ((h x).2 (by simp [hx])) with e | e
        · subst e; have := h2.1 x hx; omega
        · exact e
    rw [this]

/-! ### slices.Compact over a rising row -/
theorem compact_facts (d : Array Nat) (hs : ∀ i j, i ≤ j → j < d.size → d[i]! ≤ d[j]!) : ∀ m, m ≤ d.size →
    (Lib.compactUpTo d m).Pairwise (· < ·) ∧ (∀ x, x ∈ Lib.compactUpTo d m ↔ ∃ j, j < m ∧ d[j]! = x)
  | 0, _ => by simp [Lib.compactUpTo]
  | m + 1, hm => by
    obtain ⟨h1, h2⟩ := compact_facts d hs m (by omega)
    rw [Lib.compactUpTo_succ]
    by_cases hk : Lib.keeps d m = true
    · rw [if_pos hk]
      refine ⟨List.pairwise_append.2 ⟨h1, by simp, fun x hx y hy => ?_⟩, fun x => ?_⟩
      · obtain ⟨j, hj, e⟩ := (h2 x).1 hx
        simp at hy
        subst hy
        have h3 := hs j (m - 1) (by omega) (by omega)
        have h4 := hs (m - 1) m (by omega) (by omega)
        have h5 : d[m]! ≠ d[m - 1]! := by
          simp [Lib.keeps] at hk
          rcases hk with hk | hk
          · omega
          · exact hk
        omega
      · rw [List.mem_append, h2 x]
        constructor
        · rintro (⟨j, hj, e⟩ | e)
          · exact ⟨j, by omega, e⟩
          · simp at e; exact ⟨m, by omega, e.symm⟩
        · rintro ⟨j, hj, e⟩
          by_cases ej : j = m
          · subst ej; exact .inr (by simp [e])
          · exact .inl ⟨j, by omega, e⟩
    · rw [if_neg hk, List.append_nil]
      refine ⟨h1, fun x => ?_⟩
      rw [h2 x]
      constructor
      · rintro ⟨j, hj, e⟩; exact ⟨j, by omega, e⟩
      · rintro ⟨j, hj, e⟩
        by_cases ej : j = m
        · subst ej
          have hk' : Lib.keeps d j = false := by simpa using hk
          simp [Lib.keeps] at hk'
          exact ⟨j - 1, by omega, by rw [← hk'.2]; exact e⟩
        · exact ⟨j, by omega, e⟩

theorem sorted_get (l : List Nat) (a b : Nat) (hab : a ≤ b) (hb : b < l.length) : (l.mergeSort fun x y => decide (x ≤ y)).toArray[a]! ≤ (l.mergeSort fun x y => decide (x ≤ y)).toArray[b]! := by
  have hl : (l.mergeSort fun x y => decide (x ≤ y)).length = l.length := List.length_mergeSort _
  have hp := List.pairwise_mergeSort (le := fun x y : Nat => decide (x ≤ y)) (fun a b c h1 h2 => by simp at *; omega) (fun a b => by simp; omega) l
  by_cases e : a = b
  · subst e; exact Nat.le_refl _
  · have := List.pairwise_iff_getElem.1 hp a b (by omega) (by omega) (by omega)
    rw [getElem!_pos _ a (by simp; omega), getElem!_pos _ b (by simp; omega)]
    simpa using this

/-- sort, then compact: the mask's own places -/
theorem norm_nat (xs : List Nat) (m : Nat) (h : ∀ i, i ∈ xs ↔ i ∈ plc m) : Lib.compact (xs.mergeSort fun x y => decide (x ≤ y)) = plc m := by
  have hl : (xs.mergeSort fun x y => decide (x ≤ y)).length = xs.length := List.length_mergeSort _
  obtain ⟨h1, h2⟩ := compact_facts (xs.mergeSort fun x y => decide (x ≤ y)).toArray (fun i j hij hj => sorted_get xs i j hij (by simpa using hj)) (xs.mergeSort fun x y => decide (x ≤ y)).length (by simp)
  refine rising_eq h1 (plc_sorted m) fun x => ?_
  unfold Lib.compact
  rw [h2 x, ← h x, ← List.mem_mergeSort (le := fun x y => decide (x ≤ y))]
  constructor
  · rintro ⟨j, hj, e⟩
    rw [getElem!_pos _ j (by simpa using hj)] at e
    rw [← e]
    exact List.getElem_mem _
  · intro hx
    obtain ⟨j, hj, e⟩ := List.getElem_of_mem hx
    exact ⟨j, hj, by rw [getElem!_pos _ j (by simpa using hj)]; exact e⟩

theorem keeps_map (zs : List Nat) (hz : ∀ x ∈ zs, x < 8) (j : Nat) (hj : j < zs.length) : Lib.keeps (zs.map lett).toArray j = Lib.keeps zs.toArray j := by
  have g : ∀ i, i < zs.length → (zs.map lett).toArray[i]! = lett zs.toArray[i]! ∧ zs.toArray[i]! < 8 := fun i hi => by
    rw [getElem!_pos _ i (by simpa using hi), getElem!_pos _ i (by simpa using hi)]
    exact ⟨by simp, by simpa using hz _ (List.getElem_mem hi)⟩
  unfold Lib.keeps
  by_cases h0 : j = 0
  · simp [h0]
  · obtain ⟨g1, g2⟩ := g j hj
    obtain ⟨g3, g4⟩ := g (j - 1) (by omega)
    rw [g1, g3]
    simp only [h0, false_or, decide_eq_decide]
    constructor
    · intro h e; exact h (by rw [e])
    · intro h e; exact h (lett_inj g2 g4 e)

theorem compact_map (zs : List Nat) (hz : ∀ x ∈ zs, x < 8) : Lib.compact (zs.map lett) = (Lib.compact zs).map lett := by
  unfold Lib.compact Lib.compactUpTo
  rw [List.map_map, List.length_map]
  have e1 : (List.range zs.length).filter (Lib.keeps (zs.map lett).toArray) = (List.range zs.length).filter (Lib.keeps zs.toArray) :=
    List.filter_congr fun j hj => keeps_map zs hz j (by simpa using hj)
  rw [e1]
  refine List.map_congr_left fun j hj => ?_
  have hj' : j < zs.length := by simpa using (List.mem_filter.1 hj).1
  show (zs.map lett).toArray[j]! = lett zs.toArray[j]!
  rw [getElem!_pos _ j (by simpa using hj'), getElem!_pos _ j (by simpa using hj')]
  simp

/-- slices.Sort, then slices.Compact, over letters: the letters of the mask -/
theorem norm (xs : List Nat) (m : Nat) (h : ∀ i, i ∈ xs ↔ i ∈ plc m) : Lib.compact ((xs.map lett).mergeSort fun x y => decide (x ≤ y)) = (plc m).map lett := by
  have hx : ∀ x ∈ xs, x < 8 := fun x hx => plc_lt ((h x).1 hx)
  rw [← List.map_mergeSort (r := fun x y => decide (x ≤ y)) (fun a ha b hb => by
    simp only [decide_eq_decide]
    exact (lett_le (hx a ha) (hx b hb)).symm)]
  rw [compact_map _ (fun x hx' => hx x (List.mem_mergeSort.1 hx')), norm_nat xs m h]

theorem mem_plc_or {a b i : Nat} : i ∈ plc (a ||| b) ↔ i ∈ plc a ∨ i ∈ plc b := by
  simp only [mem_plc, Nat.testBit_or, Bool.or_eq_true]
  constructor
  · rintro ⟨h, h1 | h1⟩
    · exact .inl ⟨h, h1⟩
    · exact .inr ⟨h, h1⟩
  · rintro (⟨h, h1⟩ | ⟨h, h1⟩)
    · exact ⟨h, .inl h1⟩
    · exact ⟨h, .inr h1⟩
theorem or_lt {a b : Nat} (ha : a < 256) (hb : b < 256) : a ||| b < 256 := Nat.or_lt_two_pow (n := 8) ha hb
theorem plc_inj {a b : Nat} (ha : a < 256) (hb : b < 256) (h : plc a = plc b) : a = b := by
  refine Nat.eq_of_testBit_eq fun i => ?_
  by_cases hi : i < 8
  · have e : i ∈ plc a ↔ i ∈ plc b := by rw [h]
    simp only [mem_plc, hi, true_and] at e
    rw [Bool.eq_iff_iff]; exact e
  · have h2 : 2 ^ 8 ≤ 2 ^ i := Nat.pow_le_pow_right (by decide) (by omega)
    rw [Nat.testBit_lt_two_pow (Nat.lt_of_lt_of_le ha h2), Nat.testBit_lt_two_pow (Nat.lt_of_lt_of_le hb h2)]
theorem plc_zero : plc 0 = [] := by decide
theorem plc_nil {m : Nat} (hm : m < 256) (h : plc m = []) : m = 0 := plc_inj hm (by omega) (by rw [h, plc_zero])

/-! ### the plain run that combine and the law's model both make -/
/-- every union of one of us with one of ss, in the loops' order -/
def prod (us ss : List Nat) : List Nat := us.flatMap fun u => ss.map fun s => u ||| s
/-- the budget, union by union -/
def feed (rem : Int) : List Nat → Int × Bool
  | [] => (rem, true)
  | v :: vs => if rem - ((pop v : Int) + 1) < 0 then (rem - ((pop v : Int) + 1), false) else feed (rem - ((pop v : Int) + 1)) vs
def stages (rem : Int) (us : List Nat) : List (List Nat) → Int × Option (List Nat)
  | [] => (rem, some us)
  | ss :: rest => if (feed rem (prod us ss)).2 then stages (feed rem (prod us ss)).1 (prod us ss) rest else ((feed rem (prod us ss)).1, none)
def joinedOf : List (List Nat) → Nat
  | [] => 0
  | s :: r => if s.length = 1 then s.headD 0 ||| joinedOf r else joinedOf r
def altsOf (req : List (List Nat)) : List (List Nat) := req.filter fun s => decide (s.length ≠ 1)
def run (req : List (List Nat)) (b : Int) : Int × Option (List Nat) :=
  if req = [] then (b, some [])
  else if joinedOf req = 0 ∧ altsOf req ≠ [] then stages b ((altsOf req).headD []) (altsOf req).tail
  else stages b [joinedOf req] (altsOf req)

/-! ### how sets lie in memory -/
/-- the cell of a letter -/
def cell (i : Nat) : Value := .string ⟨(lett i).toArray⟩

/-- Block b holds cells of type T. -/
def Typ (w : World) (b : Nat) (T : TypeId) : Prop := ∃ cs fz, w.heap[b]? = some (.cells cs T fz)
/-- Every block of cells of one of these types is as it was. -/
def KT (S : List TypeId) (w W : World) : Prop := ∀ b T, Typ w b T → T ∈ S → W.heap[b]? = w.heap[b]?
theorem Typ.lt {w : World} {b : Nat} {T : TypeId} (h : Typ w b T) : b < w.heap.size := by
  obtain ⟨cs, fz, h⟩ := h
  exact (Array.getElem?_eq_some_iff.1 h).1
theorem Typ.one {w : World} {b : Nat} {T T' : TypeId} (h : Typ w b T) (h' : Typ w b T') : T = T' := by
  obtain ⟨cs, fz, h⟩ := h
  obtain ⟨cs', fz', h'⟩ := h'
  rw [h] at h'
  cases h'
  rfl
theorem KT.below {S : List TypeId} {w W : World} (h : Below w.heap.size w W) : KT S w W := fun b _ hb _ => h.block b hb.lt
theorem Typ.kt {S : List TypeId} {w W : World} {b : Nat} {T : TypeId} (h : Typ w b T) (k : KT S w W) (hT : T ∈ S) : Typ W b T := by
  have e := k b T h hT
  obtain ⟨cs, fz, h⟩ := h
  exact ⟨cs, fz, e.trans h⟩
theorem KT.trans {S : List TypeId} {a b c : World} (h : KT S a b) (k : KT S b c) : KT S a c := fun i T hi hT => (k i T (hi.kt h hT) hT).trans (h i T hi hT)
theorem KT.sub {S S' : List TypeId} {w W : World} (h : KT S w W) (hs : ∀ T, T ∈ S' → T ∈ S) : KT S' w W := fun b T hb hT => h b T hb (hs T hT)

/-- A slice's header, as this program makes it. -/
def Nice (a : Option Addr) (n c : Nat) : Prop := (a = none → n = 0 ∧ c = 0) ∧ ∀ ad, a = some ad → ∃ b off, ad = ⟨b, off, none⟩
/-- A slice of one-letter strings: their places are xs. -/
def SL (w : World) (a : Option Addr) (n : Nat) (xs : List Nat) : Prop :=
  xs.length = n ∧ n ≤ 65536 ∧ (∀ x ∈ xs, x < 8) ∧ (0 < n → ∃ b off, a = some ⟨b, off, none⟩ ∧ Typ w b 9 ∧ ∀ i, i < n → w.cell? ⟨b, off + i, none⟩ = some (cell (xs.getD i 0)))
/-- A value that is the set of mask m. -/
def MS (w : World) (v : Value) (m : Nat) : Prop := ∃ a n c, v = .slice a n c ∧ SL w a n (plc m) ∧ Nice a n c ∧ m < 256
/-- A slice of sets: its elements are the values V i, the sets of the masks ms. -/
def SS (w : World) (a : Option Addr) (n : Nat) (V : Nat → Value) (ms : List Nat) : Prop :=
  ms.length = n ∧ n ≤ 1048576 ∧ (0 < n → ∃ b off, a = some ⟨b, off, none⟩ ∧ Typ w b 22 ∧ ∀ i, i < n → w.cell? ⟨b, off + i, none⟩ = some (V i)) ∧ ∀ i, i < n → MS w (V i) (ms.getD i 0)
def SV (w : World) (v : Value) (ms : List Nat) : Prop := ∃ a n c V, v = .slice a n c ∧ SS w a n V ms ∧ Nice a n c
/-- A slice of slices of sets. -/
def TS (w : World) (a : Option Addr) (n : Nat) (V : Nat → Value) (mss : List (List Nat)) : Prop :=
  mss.length = n ∧ n ≤ 1048576 ∧ (0 < n → ∃ b off, a = some ⟨b, off, none⟩ ∧ Typ w b 31 ∧ ∀ i, i < n → w.cell? ⟨b, off + i, none⟩ = some (V i)) ∧ ∀ i, i < n → SV w (V i) (mss.getD i [])

theorem SL.kt {S : List TypeId} {w W : World} {a : Option Addr} {n : Nat} {xs : List Nat} (h : SL w a n xs) (k : KT S w W) (h9 : 9 ∈ S) : SL W a n xs := by
  obtain ⟨h1, h2, h4, h3⟩ := h
  refine ⟨h1, h2, h4, fun hn => ?_⟩
  obtain ⟨b, off, e, ht, hc⟩ := h3 hn
  exact ⟨b, off, e, ht.kt k h9, fun i hi => (World.cell?_of_block (a := ⟨b, off + i, none⟩) (k b 9 ht h9)).trans (hc i hi)⟩
theorem MS.kt {S : List TypeId} {w W : World} {v : Value} {m : Nat} (h : MS w v m) (k : KT S w W) (h9 : 9 ∈ S) : MS W v m := by
  obtain ⟨a, n, c, e, h, h1, h2⟩ := h
  exact ⟨a, n, c, e, h.kt k h9, h1, h2⟩
theorem SS.kt {S : List TypeId} {w W : World} {a : Option Addr} {n : Nat} {V : Nat → Value} {ms : List Nat} (h : SS w a n V ms) (k : KT S w W) (h9 : 9 ∈ S) (h22 : 22 ∈ S) : SS W a n V ms := by
  obtain ⟨h1, h2, h3, h4⟩ := h
  refine ⟨h1, h2, fun hn => ?_, fun i hi => (h4 i hi).kt k h9⟩
  obtain ⟨b, off, e, ht, hc⟩ := h3 hn
  exact ⟨b, off, e, ht.kt k h22, fun i hi => (World.cell?_of_block (a := ⟨b, off + i, none⟩) (k b 22 ht h22)).trans (hc i hi)⟩
theorem SV.kt {S : List TypeId} {w W : World} {v : Value} {ms : List Nat} (h : SV w v ms) (k : KT S w W) (h9 : 9 ∈ S) (h22 : 22 ∈ S) : SV W v ms := by
  obtain ⟨a, n, c, V, e, h, h1⟩ := h
  exact ⟨a, n, c, V, e, h.kt k h9 h22, h1⟩
theorem TS.kt {S : List TypeId} {w W : World} {a : Option Addr} {n : Nat} {V : Nat → Value} {mss : List (List Nat)} (h : TS w a n V mss) (k : KT S w W) (h9 : 9 ∈ S) (h22 : 22 ∈ S) (h31 : 31 ∈ S) : TS W a n V mss := by
  obtain ⟨h1, h2, h3, h4⟩ := h
  refine ⟨h1, h2, fun hn => ?_, fun i hi => (h4 i hi).kt k h9 h22⟩
  obtain ⟨b, off, e, ht, hc⟩ := h3 hn
  exact ⟨b, off, e, ht.kt k h31, fun i hi => (World.cell?_of_block (a := ⟨b, off + i, none⟩) (k b 31 ht h31)).trans (hc i hi)⟩
theorem SL.later {w W : World} {a : Option Addr} {n : Nat} {xs : List Nat} (h : SL w a n xs) (hb : Below w.heap.size w W) : SL W a n xs := h.kt (S := [9]) (.below hb) (by decide)
theorem MS.later {w W : World} {v : Value} {m : Nat} (h : MS w v m) (hb : Below w.heap.size w W) : MS W v m := h.kt (S := [9]) (.below hb) (by decide)
theorem SS.later {w W : World} {a : Option Addr} {n : Nat} {V : Nat → Value} {ms : List Nat} (h : SS w a n V ms) (hb : Below w.heap.size w W) : SS W a n V ms := h.kt (S := [9, 22]) (.below hb) (by decide) (by decide)
theorem SV.later {w W : World} {v : Value} {ms : List Nat} (h : SV w v ms) (hb : Below w.heap.size w W) : SV W v ms := h.kt (S := [9, 22]) (.below hb) (by decide) (by decide)
theorem TS.later {w W : World} {a : Option Addr} {n : Nat} {V : Nat → Value} {mss : List (List Nat)} (h : TS w a n V mss) (hb : Below w.heap.size w W) : TS W a n V mss := h.kt (S := [9, 22, 31]) (.below hb) (by decide) (by decide) (by decide)

/-- what a row of the call's own is -/
theorem owns_row {w : World} {base : Nat} {e : TypeId} {v : Value} {n : Nat} {vs : List Value} (h : w.ownsRow base e 1 v n vs) :
    ∃ a c, v = .slice a n c ∧ vs.length = n ∧ (0 < n → ∃ b off, a = some ⟨b, off, none⟩ ∧ Typ w b e ∧ ∀ i, i < n → w.cell? ⟨b, off + i, none⟩ = some (vs.getD i undef)) ∧ Nice a n c := by
  have hl : vs.length = n := by have := h.1; simpa using this
  rcases h.2 with ⟨rfl, rfl⟩ | ⟨g, cap, cur, rfl, hbase, hb, h1, h2, h3, h4⟩
  · exact ⟨none, 0, rfl, hl, fun h => by omega, fun _ => ⟨rfl, rfl⟩, fun ad h => by cases h⟩
  · refine ⟨_, _, rfl, hl, fun hn => ⟨g, 0, rfl, ⟨cur, (0, 0), hb⟩, fun i hi => ?_⟩, (fun h => by cases h), (fun ad h => by cases h; exact ⟨_, _, rfl⟩)⟩
    have := h.cellAt i (by omega)
    rw [Nat.zero_add, this]
    simp [List.getD, List.getElem?_eq_getElem (show i < vs.length by omega)]
/-- a row of the call's own, later -/
theorem owns_kt {S : List TypeId} {w W : World} {base : Nat} {e : TypeId} {v : Value} {n : Nat} {vs : List Value} (h : w.ownsRow base e 1 v n vs) (k : KT S w W) (he : e ∈ S) : W.ownsRow base e 1 v n vs := by
  refine ⟨h.1, ?_⟩
  rcases h.2 with h0 | ⟨g, cap, cur, rfl, hbase, hb, h1⟩
  · exact .inl h0
  · exact .inr ⟨g, cap, cur, rfl, hbase, (k g e ⟨cur, (0, 0), hb⟩ he).trans hb, h1⟩
/-- what growing a row of the call's own leaves alone -/
theorem KT.grown {S : List TypeId} {w W : World} {base : Nat} {e : TypeId} {v : Value} {n : Nat} {vs : List Value} (h : w.ownsRow base e 1 v n vs) (hg : w.grownBy W v.ownBlock) (he : e ∉ S) : KT S w W := by
  intro b T hb hT
  refine hg.block b hb.lt fun e' => ?_
  rcases h.2 with ⟨rfl, _⟩ | ⟨g, cap, cur, rfl, hbase, hb', h1⟩
  · cases e'
  · simp [Value.ownBlock] at e'
    subst e'
    exact he ((hb.one ⟨cur, (0, 0), hb'⟩) ▸ hT)
theorem owns_SL {w : World} {base : Nat} {v : Value} {n : Nat} {xs : List Nat} (h : w.ownsRow base 9 1 v n (xs.map cell)) (hn : n ≤ 65536) (hx : ∀ x ∈ xs, x < 8) :
    ∃ a c, v = .slice a n c ∧ SL w a n xs ∧ Nice a n c := by
  obtain ⟨a, c, e1, e2, e3, e4⟩ := owns_row h
  have hl : xs.length = n := by simpa using e2
  refine ⟨a, c, e1, ⟨hl, hn, hx, fun h0 => ?_⟩, e4⟩
  obtain ⟨b, off, r1, r2, r3⟩ := e3 h0
  refine ⟨b, off, r1, r2, fun i hi => ?_⟩
  rw [r3 i hi]
  simp [List.getD, List.getElem?_eq_getElem (show i < xs.length by omega)]
/-- one append to a row of the call's own, behind a block laid for what is appended -/
theorem appended {e : TypeId} {B : Nat} {w wr w1 : World} {v : Value} {k : Nat} {xs : List Value} {o : Obj} (hown : wr.ownsRow B e 1 v k xs) (hbr : Below B w wr) (hB : B ≤ wr.heap.size)
    (hgrow : (wr.alloc o).grownBy w1 v.ownBlock) : Below B w w1 := by
  refine (hbr.alloc hB o).grown hgrow (by simp; omega) (fun j hj => ?_)
  rcases hown.2 with ⟨rfl, _⟩ | ⟨g, cap, cur, rfl, hbase, _⟩
  · cases hj
  · simp [Value.ownBlock] at hj
    omega
theorem appended0 {e : TypeId} {B : Nat} {w wr w1 : World} {v : Value} {k : Nat} {xs : List Value} (hown : wr.ownsRow B e 1 v k xs) (hbr : Below B w wr) (hB : B ≤ wr.heap.size)
    (hgrow : wr.grownBy w1 v.ownBlock) : Below B w w1 := by
  refine hbr.grown hgrow hB (fun j hj => ?_)
  rcases hown.2 with ⟨rfl, _⟩ | ⟨g, cap, cur, rfl, hbase, _⟩
  · cases hj
  · simp [Value.ownBlock] at hj
    omega
theorem one_cells (xs : List Nat) : ∀ u ∈ xs.map cell, u.oneCell' = true := by
  intro u hu
  obtain ⟨x, _, rfl⟩ := List.mem_map.1 hu
  rfl
/-- what append asks of a source that is a set -/
theorem cells_SL {w : World} {a : Option Addr} {n : Nat} {xs : List Nat} (h : SL w a n xs) : ∀ ad, a = some ad → ∀ j u, (xs.map cell)[j]? = some u → w.cell? (ad.add j) = some u := by
  intro ad ha j u hu
  have hj : j < xs.length := by have := (List.getElem?_eq_some_iff.1 hu).1; simpa using this
  obtain ⟨b, off, e, _, hc⟩ := h.2.2.2 (by have := h.1; omega)
  rw [e] at ha
  cases ha
  rw [Addr.add_lit, hc j (by have := h.1; omega)]
  rw [List.getElem?_map, List.getElem?_eq_getElem hj] at hu
  simp at hu
  simp [List.getD, List.getElem?_eq_getElem hj, hu]
end Go.Proofs.YbulkcfrwFmt.Plain
