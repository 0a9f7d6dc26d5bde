/- Seat b4091a: what the reading of an argument says of memory, in the seat's own words. -/
import Derived.Test.YbulkcfrwPlain
import Derived.SliceStrings
import Derived.Deep.Slices
import Derived.ProofKit
namespace Go.Proofs.Ybulkcfrw.Plain
open Go.RowKit Go.ChangeShapes Go.WideShapes Go.Deep

section
variable {H : Type} {enc : TypeId × Value → H} {P : Program} {w : World} {base : Nat} {held : Bool}

theorem getD_take {α : Type} (l : List α) (d : α) (n i : Nat) (h : i < n) : (l.take n).getD i d = l.getD i d := by
  simp [List.getD, h]

/-- A slice of strings that came in. -/
theorem open_SL {t e : TypeId} {fuel : Nat} {a : Option Addr} {len cap : Nat} {x : DataW H × List MemPlace} (ht : P.underlying t = some (.slice e)) (he : P.underlying e = some .string) (hc : P.cellsOf e = 1)
    (h : DataW.trod enc P w base (fun _ => true) held fuel t [.slice a len cap] = some x) :
    ∃ ss, SL w a len ss ∧ (∀ s ∈ ss, s.size ≤ maxLen) ∧ (x.1 = .nil ∧ ss = [] ∨ ∃ ds, x.1 = .slice (ss.map fun s => .lit (.string s.data.toList)) ds ∧ len ≤ cap) := by
  rcases open_strings ht he hc h with ⟨hcs, hx⟩ | ⟨a', len', cap', zs, hcs, _, hl, hm, hz, hx, hcell, hws⟩
  · simp at hcs
    obtain ⟨rfl, rfl, rfl⟩ := hcs
    exact ⟨[], ⟨rfl, by omega, fun h => by omega⟩, by simp, .inl ⟨by rw [hx], rfl⟩⟩
  · simp at hcs
    obtain ⟨rfl, rfl, rfl⟩ := hcs
    simp at hz
    unfold maxLen at hm
    refine ⟨zs.take len, ⟨by simp; omega, by omega, fun hn => ?_⟩, fun s hs => hws s (List.mem_of_mem_take hs), .inr ⟨_, by rw [hx]; rfl, hl⟩⟩
    obtain ⟨b, off, spot⟩ := a'
    have hspot : spot = none := by simpa [Addr.add] using World.cell?_spot (hcell 0 (by omega))
    subst hspot
    refine ⟨b, off, rfl, ?_, fun i hi => ?_⟩
    · have := hcell 0 (by omega)
      rw [add_plain] at this
      exact World.block_lt_of_cell? _ _ this
    · have := hcell i (by omega)
      rw [add_plain] at this
      rw [getD_take _ _ _ _ hi]
      exact this

/-- A slice of slices of strings that came in. -/
theorem open_SS {t e q : TypeId} {fuel : Nat} {a : Option Addr} {len cap : Nat} {x : DataW H × List MemPlace} (ht : P.underlying t = some (.slice e)) (he : P.underlying e = some (.slice q)) (hq : P.underlying q = some .string)
    (ce : P.cellsOf e = 1) (cq : P.cellsOf q = 1) (h : DataW.trod enc P w base (fun _ => true) held fuel t [.slice a len cap] = some x) :
    ∃ V xs, SS w a len V xs := by
  rcases open_slice1 ht ce h with ⟨hcs, hx⟩ | ⟨a', len', cap', m, n, V, D, Pl, hcs, _, hl, hm, hmm, hx, hrow⟩
  · simp at hcs
    obtain ⟨rfl, rfl, rfl⟩ := hcs
    exact ⟨fun _ => .slice none 0 0, [], rfl, by omega, fun h => by omega, fun i hi => by omega⟩
  · simp at hcs
    obtain ⟨rfl, rfl, rfl⟩ := hcs
    simp at hmm
    unfold maxLen at hm
    have each : ∀ i, i < len → ∃ ss, SV w (V i) ss := fun i hi => by
      obtain ⟨_, h2⟩ := hrow i (by omega)
      rcases open_strings he hq cq h2 with ⟨hcs, _⟩ | ⟨a', len', cap', zs, hcs, _⟩
      · simp only [List.cons.injEq, and_true] at hcs
        rw [hcs] at h2
        obtain ⟨ss, h3, _⟩ := open_SL he hq cq h2
        exact ⟨ss, _, _, _, hcs, h3⟩
      · simp only [List.cons.injEq, and_true] at hcs
        rw [hcs] at h2
        obtain ⟨ss, h3, _⟩ := open_SL he hq cq h2
        exact ⟨ss, _, _, _, hcs, h3⟩
    obtain ⟨f, hf⟩ := choose_lt each
    refine ⟨V, (List.range len).map f, by simp, by omega, fun hn => ?_, fun i hi => ?_⟩
    · obtain ⟨b, off, spot⟩ := a'
      have hspot : spot = none := by simpa [Addr.add] using World.cell?_spot (hrow 0 (by omega)).1
      subst hspot
      refine ⟨b, off, rfl, ?_, fun i hi => ?_⟩
      · have := (hrow 0 (by omega)).1
        rw [add_plain] at this
        exact World.block_lt_of_cell? _ _ this
      · have := (hrow i (by omega)).1
        rw [add_plain] at this
        exact this
    · have e1 : ((List.range len).map f).getD i [] = f i := by simp [List.getD, hi]
      rw [e1]
      exact hf i hi
end
end Go.Proofs.Ybulkcfrw.Plain
