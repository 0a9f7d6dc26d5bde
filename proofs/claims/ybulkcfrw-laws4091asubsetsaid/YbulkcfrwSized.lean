/- Seat b4091a: what the form's own reach says of the strings and the sets that came in. -/
import Derived.Test.YbulkcfrwOpen
import Derived.SizedLaws
namespace Go.Proofs.Ybulkcfrw.Plain
open Go.RowKit Go.ChangeShapes Go.WideShapes Go.Deep

section
variable {H : Type} {enc : TypeId × Value → H} {P : Program} {w : World} {base : Nat} {held : Bool}

theorem weightsAll_mem {e : TypeId} {n : Nat} {d : DataW H} (hn : n ∈ d.weights P e) : ∀ l : List (DataW H), d ∈ l → n ∈ DataW.weightsAll P e l
  | [], h => by simp at h
  | x :: r, h => by
    simp only [DataW.weightsAll, List.mem_append]
    rcases List.mem_cons.1 h with rfl | h
    · exact .inl hn
    · exact .inr (weightsAll_mem hn r h)

/-- the strings of a slice that came in are within the reach -/
theorem SL_reach {t e : TypeId} {fuel : Nat} {a : Option Addr} {len cap : Nat} {x : DataW H × List MemPlace} (ht : P.underlying t = some (.slice e)) (he : P.underlying e = some .string) (hc : P.cellsOf e = 1)
    (h : DataW.trod enc P w base (fun _ => true) held fuel t [.slice a len cap] = some x) (hr : ∀ n ∈ x.1.weights P t, n ≤ reachBytes) :
    ∃ ss, SL w a len ss ∧ ∀ s ∈ ss, s.size ≤ 140737488351232 := by
  obtain ⟨ss, h1, _, h2⟩ := open_SL ht he hc h
  refine ⟨ss, h1, fun s hs => ?_⟩
  rcases h2 with ⟨_, rfl⟩ | ⟨sp, e1, _⟩
  · simp at hs
  · have hm : s.data.toList.length ∈ x.1.weights P t := by
      rw [e1]
      simp only [DataW.weights, ht, List.mem_cons, List.mem_append]
      refine .inr (.inl (weightsAll_mem (d := .lit (.string s.data.toList)) (by simp [DataW.weights]) _ (List.mem_map.2 ⟨s, hs, rfl⟩)))
    have := hr _ hm
    unfold reachBytes at this
    have e2 : s.data.toList.length = s.size := Array.length_toList
    omega

/-- a set that came in takes no more than the reach -/
theorem len_reach {t e : TypeId} {fuel : Nat} {a : Option Addr} {len cap : Nat} {x : DataW H × List MemPlace} (ht : P.underlying t = some (.slice e)) (he : P.underlying e = some .string) (hc : P.cellsOf e = 1) (hb : P.bytesOf e = 16)
    (h : DataW.trod enc P w base (fun _ => true) held fuel t [.slice a len cap] = some x) (hr : ∀ n ∈ x.1.weights P t, n ≤ reachBytes) :
    ∃ ss, SL w a len ss ∧ ss.length ≤ 8796093021952 := by
  obtain ⟨ss, h1, _, h2⟩ := open_SL ht he hc h
  refine ⟨ss, h1, ?_⟩
  rcases h2 with ⟨_, rfl⟩ | ⟨sp, e1, _⟩
  · simp
  · have hm : ((ss.map fun s => (DataW.lit (.string s.data.toList) : DataW H)).length + sp.length) * P.bytesOf e ∈ x.1.weights P t := by
      rw [e1]
      simp only [DataW.weights, ht, List.mem_cons, true_or]
    have := hr _ hm
    unfold reachBytes at this
    rw [hb] at this
    simp at this
    omega

theorem SS_reach {t e q : TypeId} {fuel : Nat} {a : Option Addr} {len cap : Nat} {x : DataW H × List MemPlace} (ht : P.underlying t = some (.slice e)) (he : P.underlying e = some (.slice q)) (hq : P.underlying q = some .string)
    (ce : P.cellsOf e = 1) (cq : P.cellsOf q = 1) (hb : P.bytesOf q = 16) (h : DataW.trod enc P w base (fun _ => true) held fuel t [.slice a len cap] = some x) (hr : ∀ n ∈ x.1.weights P t, n ≤ reachBytes) :
    ∃ V xs, SS w a len V xs ∧ ∀ s ∈ xs, s.length ≤ 8796093021952 := by
  rcases open_slice1 ht ce h with ⟨hcs, hx⟩ | ⟨a', len', cap', m, n, V, D, Pl, hcs, _, hl, hm, hmm, hx, hrow⟩
  · simp at hcs
    obtain ⟨rfl, rfl, rfl⟩ := hcs
    exact ⟨fun _ => .slice none 0 0, [], ⟨rfl, by omega, fun h => by omega, fun i hi => by omega⟩, by simp⟩
  · simp at hcs
    obtain ⟨rfl, rfl, rfl⟩ := hcs
    simp at hmm
    unfold maxLen at hm
    have each : ∀ i, i < len → ∃ ss, SV w (V i) ss ∧ ss.length ≤ 8796093021952 := fun i hi => by
      obtain ⟨_, h2⟩ := hrow i (by omega)
      have hr2 : ∀ n ∈ (D i, Pl i).1.weights P e, n ≤ reachBytes := fun n hn => hr n (by
        rw [hx]
        simp only [DataW.weights, ht, List.mem_cons, List.mem_append]
        exact .inr (.inl (weightsAll_mem hn _ (List.mem_map.2 ⟨i, by simpa using hi, rfl⟩))))
      rcases open_strings he hq cq h2 with ⟨hcs, _⟩ | ⟨a', len', cap', zs, hcs, _⟩
      · simp only [List.cons.injEq, and_true] at hcs
        rw [hcs] at h2
        obtain ⟨ss, h3, h4⟩ := len_reach he hq cq hb h2 hr2
        exact ⟨ss, ⟨_, _, _, hcs, h3⟩, h4⟩
      · simp only [List.cons.injEq, and_true] at hcs
        rw [hcs] at h2
        obtain ⟨ss, h3, h4⟩ := len_reach he hq cq hb h2 hr2
        exact ⟨ss, ⟨_, _, _, hcs, h3⟩, h4⟩
    obtain ⟨f, hf⟩ := choose_lt each
    refine ⟨V, (List.range len).map f, ⟨by simp, by omega, fun hn => ?_, fun i hi => ?_⟩, fun s hs => ?_⟩
    · obtain ⟨b, off, spot⟩ := a'
      have hspot : spot = none := by simpa [Addr.add] using World.cell?_spot (hrow 0 (by omega)).1
      subst hspot
      refine ⟨b, off, rfl, ?_, fun i hi => ?_⟩
      · have := (hrow 0 (by omega)).1
        rw [add_plain] at this
        exact World.block_lt_of_cell? _ _ this
      · have := (hrow i (by omega)).1
        rw [add_plain] at this
        exact this
    · have e1 : ((List.range len).map f).getD i [] = f i := by simp [List.getD, hi]
      rw [e1]
      exact (hf i hi).1
    · obtain ⟨i, hi, rfl⟩ := List.mem_map.1 hs
      exact (hf i (by simpa using hi)).2
end
end Go.Proofs.Ybulkcfrw.Plain
