/- Seat b4091aF: slices.SortFunc at a row of sets of the call's own, by slices.Compare. -/
import Derived.Test.YbulkcfrwFmtLeaves4
import Derived.Test.YbulkcfrwFmtRowsOf
namespace Go.Proofs.YbulkcfrwFmt.Walks
open Go.RowKit Plain Go.Sort Go.Lib

/-- a row of the call's own that holds the sets of the masks ms -/
def OR (w : World) (base : Nat) (v : Value) (n : Nat) (ms : List Nat) : Prop := ∃ vs, w.ownsRow base 22 1 v n vs ∧ ms.length = n ∧ n ≤ 1048576 ∧ ∀ i, i < n → MS w (vs.getD i undef) (ms.getD i 0)

/-- the order of masks: slices.Compare of their sets -/
def mcmp (a b : Nat) : Int := cmpI (plc a) (plc b)
theorem mcmp_swo : SWO (ltOf mcmp) where
  irrefl x := by simp [ltOf, mcmp, cmpI_self]
  trans x y z h1 h2 := by
    exact decide_eq_true (cmpI_trans _ _ _ (of_decide_eq_true h1) (of_decide_eq_true h2))
  ntrans x y z h1 h2 := by
    have h1 : ¬ cmpI (plc x) (plc y) < 0 := of_decide_eq_false h1
    have h2 : ¬ cmpI (plc y) (plc z) < 0 := of_decide_eq_false h2
    refine decide_eq_false ?_
    show ¬ cmpI (plc x) (plc z) < 0
    intro h3
    have n1 := cmpI_neg (plc y) (plc x)
    by_cases e1 : cmpI (plc x) (plc y) = 0
    · rw [cmpI_eq _ _ e1] at h3; exact h2 h3
    · have : cmpI (plc y) (plc x) < 0 := by omega
      exact h2 (cmpI_trans _ _ _ this h3)

set_option maxHeartbeats 1000000 in
theorem sortFunc_any (w : World) (base : Nat) (v : Value) (n : Nat) (ms : List Nat) (h : OR w base v n ms) (h0 : n ≠ 0) :
    Calls Ybaf.prog 20 #[v, .func (.func 12) #[] #[]] w fun e w' => e = .returned (.tuple #[]) ∧ (∃ ms', OR w' base v n ms' ∧ (∀ x, x ∈ ms' ↔ x ∈ ms) ∧ ∀ i j, i < j → j < n → ¬ mcmp (ms'.getD j 0) (ms'.getD i 0) < 0) ∧ Below base w w' ∧ KT [9] w w' := by
  obtain ⟨vs, hown, hl, hn, hms⟩ := h
  have hvl : vs.length = n := by have := hown.1; simpa using this
  rcases hown.2 with ⟨_, e⟩ | ⟨g, cap, cur, rfl, -⟩
  · exact absurd e h0
  · haveI : Inhabited (Fin n) := ⟨⟨0, by omega⟩⟩
    let enc : Fin n → Value := fun i => vs.getD i.1 undef
    have hvs : vs = (List.finRange n).map enc := by
      apply List.ext_getElem
      · simp [hvl]
      · intro i h1 h2
        simp [enc, h1]
    have hown' : w.ownsRow base 22 1 (.slice (some ⟨g, 0, none⟩) n cap) n ((List.finRange n).map enc) := by rw [← hvs]; exact hown
    obtain ⟨hH, hlen, hb, hg, hc, ht⟩ := owns_holds enc hown'
    have hO : OneCell enc := fun i => by
      obtain ⟨a, k, c, e, _⟩ := hms i.1 i.2
      show (vs.getD i.1 undef).oneCell' = true
      rw [e]; rfl
    have hcmp : CmpReads Ybaf.prog 12 #[] enc (fun i j : Fin n => mcmp (ms.getD i.1 0) (ms.getD j.1 0)) g 0 (List.finRange n).toArray.size w := by
      intro m os dk hs x y
      have kt : KT [9] w (sortWorld enc w g 0 m dk os) := kt_put enc w m g 0 dk os ht [9] (by decide)
      obtain ⟨a1, n1, c1, e1, s1, -⟩ := (hms x.1 x.2).kt kt (by decide)
      obtain ⟨a2, n2, c2, e2, s2, -⟩ := (hms y.1 y.2).kt kt (by decide)
      show Calls Ybaf.prog 12 (#[vs.getD x.1 undef, vs.getD y.1 undef] ++ #[]) _ _
      rw [e1, e2]
      exact (compare_any a1 n1 c1 _ a2 n2 c2 _ _ s1 s2).mono fun e w' ⟨h1, h2⟩ => ⟨h1, 0, by rw [← h2]; rfl⟩
    have hswo : SWO (ltOf (fun i j : Fin n => mcmp (ms.getD i.1 0) (ms.getD j.1 0))) := ⟨fun x => mcmp_swo.irrefl _, fun x y z => mcmp_swo.trans _ _ _, fun x y z => mcmp_swo.ntrans _ _ _⟩
    have key := Any.slices_SortFunc Ybaf.laysSortFunc enc hO _ hswo 12 #[] g 0 cap (List.finRange n).toArray w (enters_of Ybaf.func12 (by kernel_rfl) rfl) hcmp.lays hH hg (by simp; omega)
    have hsz : (List.finRange n).toArray.size = n := by simp
    rw [hsz] at key
    refine key.mono fun e w' ⟨h1, d', q, os, hp, hs, hw⟩ => ⟨h1, ?_, ?_, ?_⟩
    · have hd : d'.size = n := by rw [hp.1, hsz]
      have hperm : d'.toList.Perm (List.finRange n) := by
        have := hp.2.2
        simpa [hd, Array.extract_eq_self_of_le] using this
      have hown2 := owns_put enc hown' q d' hd os
      have kt : KT [9] w (sortWorld enc w g 0 q d' os) := kt_put enc w q g 0 d' os ht [9] (by decide)
      have gd : ∀ i, (hi : i < n) → (d'.toList.map fun i : Fin n => ms.getD i.1 0).getD i 0 = ms.getD (d'[i]'(by omega)).1 0 ∧ (d'.toList.map enc).getD i undef = vs.getD (d'[i]'(by omega)).1 undef := fun i hi => by
        constructor
        · rw [List.getD, List.getElem?_map]; simp [show i < d'.size by omega]
        · rw [List.getD, List.getElem?_map]; simp [show i < d'.size by omega, enc]
      refine ⟨d'.toList.map fun i => ms.getD i.1 0, ⟨d'.toList.map enc, by rw [hw]; exact hown2, by simp [hd], hn, fun i hi => ?_⟩, fun x => ?_, fun i j hij hj => ?_⟩
      · rw [(gd i hi).1, (gd i hi).2, hw]
        exact (hms _ (d'[i]'(by omega)).2).kt kt (by decide)
      · rw [List.mem_map]
        constructor
        · rintro ⟨i, _, rfl⟩
          rw [List.getD, List.getElem?_eq_getElem (by omega)]
          simp
        · intro hx
          obtain ⟨i, hi, e⟩ := List.getElem_of_mem hx
          refine ⟨⟨i, by omega⟩, hperm.mem_iff.2 (List.mem_finRange _), ?_⟩
          rw [List.getD, List.getElem?_eq_getElem hi]
          simpa using e
      · rw [(gd i (by omega)).1, (gd j hj).1]
        have := hs i j (Nat.zero_le _) hij (by simpa using hj)
        rw [getElem!_pos d' i (by omega), getElem!_pos d' j (by omega)] at this
        simpa [ltOf] using this
    · rw [hw]; exact below_put enc w q g 0 d' os base hb hg
    · rw [hw]; exact kt_put enc w q g 0 d' os ht [9] (by decide)
end Go.Proofs.YbulkcfrwFmt.Walks
