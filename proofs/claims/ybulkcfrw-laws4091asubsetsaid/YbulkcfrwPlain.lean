/- Seat b4091a: the plain functions, and how slices of strings and of sets lie in memory. No program is named. -/
import Derived.Below
import Derived.Laws.Strings
import Derived.ProofKit
namespace Go.Proofs.Ybulkcfrw.Plain
open Go.RowKit

/-- v is among ss. -/
def hasv (ss : List ByteArray) (v : ByteArray) : Bool := ss.any fun x => decide (x = v)
theorem hasv_iff (ss : List ByteArray) (v : ByteArray) : hasv ss v = true ↔ v ∈ ss := by
  simp [hasv]
/-- two sets are one, element by element. -/
def eqss (a b : List ByteArray) : Bool := decide (a = b)
theorem eqss_iff (a b : List ByteArray) : eqss a b = true ↔ a = b := by simp [eqss]
/-- s is among xs. -/
def hass (xs : List (List ByteArray)) (s : List ByteArray) : Bool := xs.any fun x => eqss x s
theorem hass_iff (xs : List (List ByteArray)) (s : List ByteArray) : hass xs s = true ↔ s ∈ xs := by
  simp [hass, eqss]
/-- What holdsAll answers. -/
def holds (cv : List ByteArray) (cs : List (List ByteArray)) (dv : List ByteArray) (ds : List (List ByteArray)) : Bool :=
  (dv.all fun v => hasv cv v) && (ds.all fun s => hass cs s)

theorem bytes_eq {a b : ByteArray} (h : a.toList = b.toList) : a = b := by
  rw [ByteArray.toList_eq, ByteArray.toList_eq] at h
  exact Go.WideShapes.bytes_inj h
theorem beq_true {a b : ByteArray} : (a.toList == b.toList) = true ↔ a = b := by
  constructor
  · intro h; exact bytes_eq (by simpa using h)
  · rintro rfl; simp
theorem beq_false {a b : ByteArray} : (a.toList == b.toList) = false ↔ a ≠ b := by
  rw [← Bool.not_eq_true, beq_true]

/-- A slice of strings: its elements are ss. -/
def SL (w : World) (a : Option Addr) (n : Nat) (ss : List ByteArray) : Prop :=
  ss.length = n ∧ n ≤ 9223372036854775807 ∧ (0 < n → ∃ b off, a = some ⟨b, off, none⟩ ∧ b < w.heap.size ∧ ∀ i, i < n → w.cell? ⟨b, off + i, none⟩ = some (.string (ss.getD i ByteArray.empty)))
/-- A value that is such a slice. -/
def SV (w : World) (v : Value) (ss : List ByteArray) : Prop := ∃ a n c, v = .slice a n c ∧ SL w a n ss
/-- A slice of sets: its elements are the values V i, which are slices of strings, xs their elements. -/
def SS (w : World) (a : Option Addr) (n : Nat) (V : Nat → Value) (xs : List (List ByteArray)) : Prop :=
  xs.length = n ∧ n ≤ 9223372036854775807 ∧ (0 < n → ∃ b off, a = some ⟨b, off, none⟩ ∧ b < w.heap.size ∧ ∀ i, i < n → w.cell? ⟨b, off + i, none⟩ = some (V i)) ∧ ∀ i, i < n → SV w (V i) (xs.getD i [])

theorem SL.later {w W : World} {a : Option Addr} {n : Nat} {ss : List ByteArray} (h : SL w a n ss) (hb : Below w.heap.size w W) : SL W a n ss := by
  obtain ⟨h1, h2, h3⟩ := h
  refine ⟨h1, h2, fun hn => ?_⟩
  obtain ⟨b, off, e, hlt, hc⟩ := h3 hn
  exact ⟨b, off, e, Nat.lt_of_lt_of_le hlt hb.size, fun i hi => (hb.cell (p := ⟨b, off + i, none⟩) hlt).trans (hc i hi)⟩
theorem SV.later {w W : World} {v : Value} {ss : List ByteArray} (h : SV w v ss) (hb : Below w.heap.size w W) : SV W v ss := by
  obtain ⟨a, n, c, e, h⟩ := h
  exact ⟨a, n, c, e, h.later hb⟩
theorem SS.later {w W : World} {a : Option Addr} {n : Nat} {V : Nat → Value} {xs : List (List ByteArray)} (h : SS w a n V xs) (hb : Below w.heap.size w W) : SS W a n V xs := by
  obtain ⟨h1, h2, h3, h4⟩ := h
  refine ⟨h1, h2, fun hn => ?_, fun i hi => (h4 i hi).later hb⟩
  obtain ⟨b, off, e, hlt, hc⟩ := h3 hn
  exact ⟨b, off, e, Nat.lt_of_lt_of_le hlt hb.size, fun i hi => (hb.cell (p := ⟨b, off + i, none⟩) hlt).trans (hc i hi)⟩

/-- Does p hold somewhere below n? -/
def anyTo (p : Nat → Bool) : Nat → Bool
  | 0 => false
  | n + 1 => anyTo p n || p n
theorem anyTo_false (p : Nat → Bool) : ∀ n, (∀ j, j < n → p j = false) → anyTo p n = false
  | 0, _ => rfl
  | n + 1, h => by simp only [anyTo, anyTo_false p n (fun j hj => h j (by omega)), h n (by omega), Bool.or_self]
theorem anyTo_true (p : Nat → Bool) : ∀ n k, k < n → p k = true → anyTo p n = true
  | 0, _, hk, _ => by omega
  | n + 1, k, hk, h => by
    by_cases e : k = n
    · subst e; simp [anyTo, h]
    · simp [anyTo, anyTo_true p n k (by omega) h]
theorem anyTo_list {α : Type} (l : List α) (d : α) (f : α → Bool) : anyTo (fun i => f (l.getD i d)) l.length = l.any f := by
  cases h : l.any f with
  | true =>
    obtain ⟨x, hx, hf⟩ := List.any_eq_true.1 h
    obtain ⟨i, hi, rfl⟩ := List.getElem_of_mem hx
    exact anyTo_true _ _ i hi (by simpa [List.getD, List.getElem?_eq_getElem hi] using hf)
  | false =>
    refine anyTo_false _ _ fun j hj => ?_
    have := List.any_eq_false.1 h (l.getD j d) (by rw [List.getD, List.getElem?_eq_getElem hj]; simp)
    simpa using this
theorem not_anyTo_all {α : Type} (l : List α) (d : α) (f : α → Bool) : (!anyTo (fun i => !f (l.getD i d)) l.length) = l.all f := by
  rw [anyTo_list l d (fun x => !f x)]
  simp [List.all_eq_not_any_not]
theorem anyTo_congr {p q : Nat → Bool} : ∀ n, (∀ j, j < n → p j = q j) → anyTo p n = anyTo q n
  | 0, _ => rfl
  | n + 1, h => by simp only [anyTo, anyTo_congr n (fun j hj => h j (by omega)), h n (by omega)]
end Go.Proofs.Ybulkcfrw.Plain
