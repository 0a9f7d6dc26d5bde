/- The plain law of LawS4087CInForce: how many of a rising row are at or before x, and the last of them. No program is named. -/
import Derived.Sort.OwnSortedInts
namespace Go.Proofs.Ybulkcfps.SpanLaw

/-- The law's own loop: the last place below k at which d is at most x, or 0. -/
def nTo (d : Nat → Int) (x : Int) : Nat → Nat
  | 0 => 0
  | k + 1 => if d k ≤ x then k else nTo d x k

/-- A rising row is parted by x. -/
theorem parted (d : Nat → Int) (x : Int) (n : Nat) (hs : ∀ a b, a ≤ b → b < n → d a ≤ d b) : ∃ c, c ≤ n ∧ (∀ i, i < c → d i ≤ x) ∧ (∀ i, c ≤ i → i < n → x < d i) := by
  induction n with
  | zero => exact ⟨0, Nat.le_refl _, fun i hi => by omega, fun i _ hi => by omega⟩
  | succ n ih =>
    obtain ⟨c, h1, h2, h3⟩ := ih (fun a b hab hb => hs a b hab (by omega))
    by_cases hc : c = n
    · subst hc
      by_cases hx : d c ≤ x
      · exact ⟨c + 1, Nat.le_refl _, fun i hi => by
          by_cases e : i = c
          · subst e; exact hx
          · exact h2 i (by omega), fun i _ hi => by omega⟩
      · exact ⟨c, by omega, h2, fun i hi hi' => by
          obtain rfl : i = c := by omega
          omega⟩
    · have h4 := h3 c (Nat.le_refl _) (by omega)
      exact ⟨c, by omega, h2, fun i hi hi' => by
        have := hs c i hi hi'
        omega⟩

theorem nTo_eq (d : Nat → Int) (x : Int) (n c : Nat) (hc : c ≤ n) (h1 : ∀ i, i < c → d i ≤ x) (h2 : ∀ i, c ≤ i → i < n → x < d i) : ∀ k, k ≤ n → nTo d x k = min c k - 1
  | 0, _ => by simp [nTo]
  | k + 1, hk => by
    have ih := nTo_eq d x n c hc h1 h2 k (by omega)
    by_cases hkc : k < c
    · have := h1 k hkc
      simp only [nTo, if_pos this]
      omega
    · have := h2 k (by omega) (by omega)
      simp only [nTo, if_neg (show ¬ d k ≤ x by omega), ih]
      omega

theorem nTo_all (d : Nat → Int) (x : Int) (n c : Nat) (hc : c ≤ n) (h1 : ∀ i, i < c → d i ≤ x) (h2 : ∀ i, c ≤ i → i < n → x < d i) : nTo d x n = c - 1 := by
  rw [nTo_eq d x n c hc h1 h2 n (Nat.le_refl _), Nat.min_eq_left hc]

theorem nTo_lt (d : Nat → Int) (x : Int) : ∀ k, nTo d x k ≤ k
  | 0 => Nat.le_refl _
  | k + 1 => by
    have := nTo_lt d x k
    simp only [nTo]
    split <;> omega

/-- What slices.Sort leaves is rising. -/
theorem rising (l : List Int) (a b : Nat) (hab : a ≤ b) (hb : b < l.length) : (l.mergeSort fun x y => decide (x ≤ y)).getD a 0 ≤ (l.mergeSort fun x y => decide (x ≤ y)).getD b 0 := by
  have hl : (l.mergeSort fun x y => decide (x ≤ y)).length = l.length := List.length_mergeSort _
  have hp := List.pairwise_mergeSort (le := fun x y : Int => decide (x ≤ y)) (fun a b c h1 h2 => by simp at *; omega) (fun a b => by simp; omega) l
  by_cases e : a = b
  · subst e; exact Int.le_refl _
  · have := List.pairwise_iff_getElem.1 hp a b (by omega) (by omega) (by omega)
    rw [List.getD, List.getD, List.getElem?_eq_getElem (by omega), List.getElem?_eq_getElem (by omega)]
    simpa using this

theorem toArray_bang (l : List Int) (i : Nat) (h : i < l.length) : l.toArray[i]! = l.getD i 0 := by
  rw [getElem!_pos _ i (by simpa using h)]
  simp [List.getD, h]
end Go.Proofs.Ybulkcfps.SpanLaw
