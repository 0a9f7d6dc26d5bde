/- Seat b4091aF: slices.Equal over sets of letters. -/
import Derived.Test.YbulkcfrwFmtLeaves3
import Derived.RegionTactic
import Derived.Deep.QuietTactic
import Derived.BigQuiet
namespace Go.Proofs.YbulkcfrwFmt.Walks
open Go.RowKit Plain

set_option maxHeartbeats 1000000 in
/-- slices.Equal at two sets: reads only. -/
theorem equal_any (a1 : Option Addr) (n1 c1 : Nat) (xs : List Nat) (a2 : Option Addr) (n2 c2 : Nat) (ys : List Nat) (w : World) (h1 : SL w a1 n1 xs) (h2 : SL w a2 n2 ys) :
    Calls Ybaf.prog 22 #[.slice a1 n1 c1, .slice a2 n2 c2] w fun e w' => e = .returned (.bool (decide (xs = ys))) ∧ ∃ q, w' = w.drewN q := by
  obtain ⟨l1, m1, x1, k1⟩ := h1
  obtain ⟨l2, m2, x2, k2⟩ := h2
  by_cases hne : n1 = n2
  · subst hne
    have d0 : ((n1 : Int) != (n1 : Int)) = false := by simp
    by_cases hn : n1 = 0
    · subst hn
      have e1 : xs = [] := List.length_eq_zero_iff.1 l1
      have e2 : ys = [] := List.length_eq_zero_iff.1 l2
      have e3 : decide (xs = ys) = true := by rw [e1, e2]; rfl
      rw [e3]
      clear e1 e2 e3 d0 x1 x2
      go_enter Ybaf.func22, Ybaf.ntmps22
      go_wp2
      refine wp_loop_rounds 1 ?_
      rw [rounds_succ]
      go_wp2
      go_ret
      exact ⟨rfl, 0, rfl⟩
    · obtain ⟨b1, o1, rfl, hb1, hc1⟩ := k1 (by omega)
      obtain ⟨b2, o2, rfl, hb2, hc2⟩ := k2 (by omega)
      have HC1 : Hid (∀ i, i < n1 → w.cell? ⟨b1, o1 + i, none⟩ = some (cell (xs.getD i 0))) := hc1
      have HC2 : Hid (∀ i, i < n1 → w.cell? ⟨b2, o2 + i, none⟩ = some (cell (ys.getD i 0))) := hc2
      have HX : Hid ((∀ i, i < n1 → xs.getD i 0 < 8) ∧ ∀ i, i < n1 → ys.getD i 0 < 8) := ⟨fun i hi => x1 _ (by rw [List.getD, List.getElem?_eq_getElem (by omega)]; simp), fun i hi => x2 _ (by rw [List.getD, List.getElem?_eq_getElem (by omega)]; simp)⟩
      clear hc1 hc2 k1 k2 x1 x2
      go_enter Ybaf.func22, Ybaf.ntmps22
      go_wp2
      go_loopw [5, 13] (fun _ i wr => ∃ k : Nat, k ≤ n1 ∧ i = .int .i64 k ∧ (∃ q, wr = w.drewN q) ∧ Hid (∀ j, j < k → xs.getD j 0 = ys.getD j 0)) (fun _ i _ => n1 - (intOf i).toNat)
      case atStart => exact ⟨0, Nat.zero_le _, rfl, ⟨0, rfl⟩, fun j hj => absurd hj (Nat.not_lt_zero _)⟩
      case round =>
        obtain ⟨k, hk, rfl, ⟨q, rfl⟩, A⟩ := hrel
        by_cases hlt : k < n1
        · have q1 := HC1.out k hlt
          have q2 := HC2.out k hlt
          have hltz : (k : Int) < (n1 : Int) := by omega
          have hl := (less_lett (HX.out.1 k hlt) (HX.out.2 k hlt)).2
          by_cases he : xs.getD k 0 = ys.getD k 0
          · have HE : Hid (xs.getD k 0 = ys.getD k 0) := he
            rw [← he] at q2
            clear he hl
            unfold cell at q1 q2
            generalize (⟨(lett (xs.getD k 0)).toArray⟩ : ByteArray) = x at q1 q2
            go_wp2
            go_quiet (fail)
            go_wp2
            go_roundw
            case rel => exact ⟨k + 1, by omega, by go_num, ⟨q + nq, rfl⟩, fun j hj => by
                by_cases e : j = k
                · subst e; exact HE.out
                · exact A.out j (by omega)⟩
            case measure => simp [intOf]; omega
          · have hfin : decide (xs = ys) = false := by
              rw [decide_eq_false_iff_not]
              intro e; exact he (by rw [e])
            have HF : Hid (decide (xs = ys) = false) := hfin
            clear hfin
            have hb := hl
            rw [decide_eq_false he] at hb
            clear he hl
            unfold cell at q1 q2
            generalize (⟨(lett (xs.getD k 0)).toArray⟩ : ByteArray) = x at q1 hb
            generalize (⟨(lett (ys.getD k 0)).toArray⟩ : ByteArray) = y at q2 hb
            go_wp2
            go_quiet (fail)
            go_wp2
            go_ret
            exact ⟨by rw [HF.out]; rfl, q + nq, by first | rfl | (rw [World.drewN_drewN])⟩
        · have hltz : ¬ (k : Int) < (n1 : Int) := by omega
          obtain rfl : k = n1 := by omega
          have hfin : decide (xs = ys) = true := by
            rw [decide_eq_true_iff]
            apply List.ext_getElem (by omega)
            intro i hi1 hi2
            have := A.out i (by omega)
            rw [List.getD, List.getD, List.getElem?_eq_getElem hi1, List.getElem?_eq_getElem hi2] at this
            simpa using this
          have HF : Hid (decide (xs = ys) = true) := hfin
          clear hfin
          go_wp2
          go_ret
          exact ⟨by rw [HF.out]; rfl, q, rfl⟩
  · have hfin : decide (xs = ys) = false := by
      rw [decide_eq_false_iff_not]
      intro e; exact hne (by rw [← l1, ← l2, e])
    rw [hfin]
    have d0 : ((n1 : Int) != (n2 : Int)) = true := by rw [bne_iff_ne]; omega
    clear hfin k1 k2 x1 x2
    go_enter Ybaf.func22, Ybaf.ntmps22
    go_wp2
    go_ret
    exact ⟨rfl, 0, rfl⟩
end Go.Proofs.YbulkcfrwFmt.Walks
