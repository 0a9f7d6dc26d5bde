/- Seat b4091aF: what the reading of an argument of type [][]uint8 says of memory, in the seat's own words. -/
import Derived.Test.YbulkcfrwFmtModelKit
import Derived.Deep.Slices
import Derived.ProofKit
namespace Go.Proofs.YbulkcfrwFmt.Walks
open Go.RowKit Plain Go.ChangeShapes Go.WideShapes Go.Deep

section
variable {H : Type} {enc : TypeId × Value → H} {P : Program} {w : World} {base : Nat} {held : Bool}

theorem u8_bounds {z : Int} (h : (Lit.int .u8 z).wf = true) : 0 ≤ z ∧ z ≤ 255 := by
  simp [Lit.wf, IntKind.min, IntKind.max, IntKind.signed, IntKind.bits] at h
  omega

/-- A slice of bytes that came in. -/
theorem open_BL {t e : TypeId} {fuel : Nat} {a : Option Addr} {len cap : Nat} {x : DataW H × List MemPlace} (ht : P.underlying t = some (.slice e)) (he : P.underlying e = some (.int .u8)) (hc : P.cellsOf e = 1)
    (h : DataW.trod enc P w base (fun _ => true) held fuel t [.slice a len cap] = some x) :
    ∃ xs, BL w a len xs ∧ (a = none → len = 0 ∧ cap = 0) := by
  rcases open_ints ht he hc h with ⟨hcs, hx⟩ | ⟨a', len', cap', zs, hcs, _, hl, hm, hz, hx, hcell, hws⟩
  · simp at hcs
    obtain ⟨rfl, rfl, rfl⟩ := hcs
    exact ⟨[], ⟨rfl, by simp, fun h => by omega⟩, fun _ => ⟨rfl, rfl⟩⟩
  · simp at hcs
    obtain ⟨rfl, rfl, rfl⟩ := hcs
    simp at hz
    have hget : ∀ i, i < len → ((zs.take len).map Int.toNat).getD i 0 = (zs.getD i 0).toNat ∧ (Lit.int .u8 (zs.getD i 0)).wf = true := fun i hi => by
      have hi' : i < zs.length := by omega
      refine ⟨by simp [List.getD, hi, hi'], hws _ ?_⟩
      rw [List.getD, List.getElem?_eq_getElem hi']
      simp
    refine ⟨(zs.take len).map Int.toNat, ⟨by simp; omega, fun v hv => ?_, fun hn => ?_⟩, fun h => by cases h⟩
    · obtain ⟨z, hz1, rfl⟩ := List.mem_map.1 hv
      have := u8_bounds (hws z (List.mem_of_mem_take hz1))
      omega
    · obtain ⟨b, off, spot⟩ := a'
      have hspot : spot = none := by simpa [Addr.add] using World.cell?_spot (hcell 0 (by omega))
      subst hspot
      refine ⟨b, off, rfl, ?_, fun i hi => ?_⟩
      · have := hcell 0 (by omega)
        rw [add_plain] at this
        exact World.block_lt_of_cell? _ _ this
      · have := hcell i (by omega)
        rw [add_plain] at this
        rw [this, (hget i hi).1]
        have hb := u8_bounds (hget i hi).2
        rw [Int.toNat_of_nonneg hb.1]

/-- A slice of slices of bytes that came in. -/
theorem open_TB {t e q : TypeId} {fuel : Nat} {a : Option Addr} {len cap : Nat} {x : DataW H × List MemPlace} (ht : P.underlying t = some (.slice e)) (he : P.underlying e = some (.slice q)) (hq : P.underlying q = some (.int .u8))
    (ce : P.cellsOf e = 1) (cq : P.cellsOf q = 1) (h : DataW.trod enc P w base (fun _ => true) held fuel t [.slice a len cap] = some x) :
    ∃ V xs, TB w a len V xs := by
  rcases open_slice1 ht ce h with ⟨hcs, hx⟩ | ⟨a', len', cap', m, n, V, D, Pl, hcs, _, hl, hm, hmm, hx, hrow⟩
  · simp at hcs
    obtain ⟨rfl, rfl, rfl⟩ := hcs
    exact ⟨fun _ => .slice none 0 0, [], rfl, fun h => by omega, fun i hi => by omega⟩
  · simp at hcs
    obtain ⟨rfl, rfl, rfl⟩ := hcs
    simp at hmm
    have each : ∀ i, i < len → ∃ ss, BV w (V i) ss := fun i hi => by
      obtain ⟨_, h2⟩ := hrow i (by omega)
      rcases open_ints he hq cq h2 with ⟨hcs, _⟩ | ⟨a', len', cap', zs, hcs, _⟩
      · simp only [List.cons.injEq, and_true] at hcs
        rw [hcs] at h2
        obtain ⟨ss, h3, h4⟩ := open_BL he hq cq h2
        exact ⟨ss, _, _, _, hcs, h3, h4⟩
      · simp only [List.cons.injEq, and_true] at hcs
        rw [hcs] at h2
        obtain ⟨ss, h3, h4⟩ := open_BL he hq cq h2
        exact ⟨ss, _, _, _, hcs, h3, h4⟩
    obtain ⟨f, hf⟩ := choose_lt each
    refine ⟨V, (List.range len).map f, by simp, fun hn => ?_, fun i hi => ?_⟩
    · obtain ⟨b, off, spot⟩ := a'
      have hspot : spot = none := by simpa [Addr.add] using World.cell?_spot (hrow 0 (by omega)).1
      subst hspot
      refine ⟨b, off, rfl, ?_, fun i hi => ?_⟩
      · have := (hrow 0 (by omega)).1
        rw [add_plain] at this
        exact World.block_lt_of_cell? _ _ this
      · have := (hrow i (by omega)).1
        rw [add_plain] at this
        exact this
    · have e1 : ((List.range len).map f).getD i [] = f i := by simp [List.getD, hi]
      rw [e1]
      exact hf i hi
end
end Go.Proofs.YbulkcfrwFmt.Walks
