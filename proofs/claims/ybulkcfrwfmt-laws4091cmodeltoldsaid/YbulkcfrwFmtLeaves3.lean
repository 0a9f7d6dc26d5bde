/- Seat b4091aF: slices.Compare over sets of letters. -/
import Derived.Test.YbulkcfrwFmtLeaves1
namespace Go.Proofs.YbulkcfrwFmt.Walks
open Go.RowKit Plain

/-- slices.Compare over places -/
def cmpI : List Nat → List Nat → Int
  | [], [] => 0
  | [], _ :: _ => -1
  | _ :: _, [] => 1
  | x :: xs, y :: ys => if x < y then -1 else if y < x then 1 else cmpI xs ys
theorem cmpI_self : ∀ l, cmpI l l = 0
  | [] => rfl
  | x :: l => by simp [cmpI, cmpI_self l]
theorem cmpI_eq : ∀ l l', cmpI l l' = 0 → l = l'
  | [], [], _ => rfl
  | [], _ :: _, h => by simp [cmpI] at h
  | _ :: _, [], h => by simp [cmpI] at h
  | x :: l, y :: l', h => by
    simp only [cmpI] at h
    split at h
    · cases h
    · split at h
      · cases h
      · have := cmpI_eq l l' h
        rw [this, show x = y by omega]
theorem cmpI_trans : ∀ a b c, cmpI a b < 0 → cmpI b c < 0 → cmpI a c < 0
  | [], [], _, h, _ => by simp [cmpI] at h
  | _ :: _, [], _, h, _ => by simp [cmpI] at h
  | _, _ :: _, [], _, h => by simp [cmpI] at h
  | [], _ :: _, _ :: _, _, _ => by simp [cmpI]
  | x :: a, y :: b, z :: c, h1, h2 => by
    simp only [cmpI] at h1 h2 ⊢
    by_cases e1 : x < y
    · by_cases e2 : y < z
      · simp [show x < z by omega]
      · by_cases e3 : z < y
        · simp [e2, e3] at h2
        · simp [show x < z by omega]
    · by_cases e1' : y < x
      · simp [e1, e1'] at h1
      · by_cases e2 : y < z
        · simp [show x < z by omega]
        · by_cases e3 : z < y
          · simp [e2, e3] at h2
          · simp only [e1, e1', e2, e3, if_false] at h1 h2
            simp [show ¬ x < z by omega, show ¬ z < x by omega]
            exact cmpI_trans a b c h1 h2
theorem cmpI_neg : ∀ a b, cmpI a b < 0 ↔ 0 < cmpI b a
  | [], [] => by simp [cmpI]
  | [], _ :: _ => by simp [cmpI]
  | _ :: _, [] => by simp [cmpI]
  | x :: a, y :: b => by
    simp only [cmpI]
    by_cases e1 : x < y
    · simp [e1, show ¬ y < x by omega]
    · by_cases e2 : y < x
      · simp [e1, e2]
      · simp only [e1, e2, if_false]
        exact cmpI_neg a b
theorem cmpI_drop {xs ys : List Nat} : ∀ k, k ≤ xs.length → k ≤ ys.length → (∀ j, j < k → xs.getD j 0 = ys.getD j 0) → cmpI xs ys = cmpI (xs.drop k) (ys.drop k)
  | 0, _, _, _ => by simp
  | k + 1, h1, h2, h => by
    rw [cmpI_drop k (by omega) (by omega) (fun j hj => h j (by omega)), List.drop_eq_getElem_cons (show k < xs.length by omega), List.drop_eq_getElem_cons (show k < ys.length by omega)]
    have e := h k (by omega)
    rw [List.getD, List.getD, List.getElem?_eq_getElem (by omega), List.getElem?_eq_getElem (by omega)] at e
    simp only [Option.getD_some] at e
    simp only [cmpI, e, Nat.lt_irrefl, if_false]

/-- cmp.Compare at two letters -/
def cmp1 (x y : Nat) : Int := if x < y then -1 else if y < x then 1 else 0
theorem less_lett {x y : Nat} (hx : x < 8) (hy : y < 8) : Op.bytesLess (⟨(lett x).toArray⟩ : ByteArray).toList (⟨(lett y).toArray⟩ : ByteArray).toList = decide (x < y) ∧ ((⟨(lett x).toArray⟩ : ByteArray).toList == (⟨(lett y).toArray⟩ : ByteArray).toList) = decide (x = y) := by
  rw [ByteArray.toList_eq, ByteArray.toList_eq]
  have : ∀ a b : Fin 8, Op.bytesLess (lett a.1) (lett b.1) = decide (a.1 < b.1) ∧ (lett a.1 == lett b.1) = decide (a.1 = b.1) := by decide
  exact this ⟨x, hx⟩ ⟨y, hy⟩

theorem cmp_any (x y : Nat) (hx : x < 8) (hy : y < 8) (w : World) :
    Calls Ybaf.prog 24 #[cell x, cell y] w fun e w' => e = .returned (.int .i64 (cmp1 x y)) ∧ w = w' := by
  obtain ⟨l1, l2⟩ := less_lett hx hy
  have e1 : cell x = .string ⟨(lett x).toArray⟩ := rfl
  have e2 : cell y = .string ⟨(lett y).toArray⟩ := rfl
  rw [e1, e2]
  unfold cmp1
  generalize (⟨(lett x).toArray⟩ : ByteArray) = s at *
  generalize (⟨(lett y).toArray⟩ : ByteArray) = t at *
  clear e1 e2
  by_cases h1 : x < y
  · rw [decide_eq_true h1] at l1
    rw [if_pos h1]
    clear l2
    go_enter Ybaf.func24, Ybaf.ntmps24
    go_wp2
    go_ret
    exact ⟨rfl, rfl⟩
  · rw [decide_eq_false h1] at l1
    rw [if_neg h1]
    by_cases h2 : y < x
    · rw [decide_eq_false (show ¬ x = y by omega)] at l2
      rw [if_pos h2]
      go_enter Ybaf.func24, Ybaf.ntmps24
      go_wp2
      go_ret
      exact ⟨rfl, rfl⟩
    · rw [decide_eq_true (show x = y by omega)] at l2
      rw [if_neg h2]
      go_enter Ybaf.func24, Ybaf.ntmps24
      go_wp2
      go_ret
      exact ⟨rfl, rfl⟩

set_option maxHeartbeats 1000000 in
/-- slices.Compare at two sets -/
theorem compare_any (a1 : Option Addr) (n1 c1 : Nat) (xs : List Nat) (a2 : Option Addr) (n2 c2 : Nat) (ys : List Nat) (w : World) (h1 : SL w a1 n1 xs) (h2 : SL w a2 n2 ys) :
    Calls Ybaf.prog 12 #[.slice a1 n1 c1, .slice a2 n2 c2] w fun e w' => e = .returned (.int .i64 (cmpI xs ys)) ∧ w = w' := by
  obtain ⟨l1, m1, x1, k1⟩ := h1
  obtain ⟨l2, m2, x2, k2⟩ := h2
  have HL : Hid (xs.length = n1 ∧ ys.length = n2) := ⟨l1, l2⟩
  have HX : Hid ((∀ i, i < n1 → xs.getD i 0 < 8) ∧ ∀ i, i < n2 → ys.getD i 0 < 8) := ⟨fun i hi => x1 _ (by rw [List.getD, List.getElem?_eq_getElem (by omega)]; simp), fun i hi => x2 _ (by rw [List.getD, List.getElem?_eq_getElem (by omega)]; simp)⟩
  clear l1 l2 x1 x2
  go_enter Ybaf.func12, Ybaf.ntmps12
  go_wp2
  go_loop [5, 6, 7, 8, 11] (fun _ _ _ _ i => ∃ k : Nat, k ≤ n1 ∧ k ≤ n2 ∧ i = .int .i64 k ∧ Hid (∀ j, j < k → xs.getD j 0 = ys.getD j 0)) (fun _ _ _ _ i => n1 - (intOf i).toNat)
  case atStart => exact ⟨0, Nat.zero_le _, Nat.zero_le _, rfl, fun j hj => absurd hj (Nat.not_lt_zero _)⟩
  case round =>
    obtain ⟨k, hk1, hk2, rfl, A⟩ := hrel
    have HD : Hid (cmpI xs ys = cmpI (xs.drop k) (ys.drop k)) := cmpI_drop k (by have := HL.out; omega) (by have := HL.out; omega) A.out
    by_cases hlt : k < n1
    · obtain ⟨b1, o1, rfl, hb1, hc1⟩ := k1 (by omega)
      have q1 := hc1 k hlt
      have e1 := HX.out.1 k hlt
      have hltz : (k : Int) < (n1 : Int) := by omega
      by_cases hlt2 : k < n2
      · obtain ⟨b2, o2, rfl, hb2, hc2⟩ := k2 (by omega)
        have q2 := hc2 k hlt2
        have e2 := HX.out.2 k hlt2
        have hltz2 : (k : Int) < (n2 : Int) := by omega
        have HE : Hid (cmpI xs ys = if xs.getD k 0 < ys.getD k 0 then -1 else if ys.getD k 0 < xs.getD k 0 then 1 else cmpI (xs.drop (k + 1)) (ys.drop (k + 1))) := by
          have hl := HL.out
          have := HD.out
          rw [List.drop_eq_getElem_cons (show k < xs.length by omega), List.drop_eq_getElem_cons (show k < ys.length by omega)] at this
          rw [List.getD, List.getD, List.getElem?_eq_getElem (by omega), List.getElem?_eq_getElem (by omega)]
          exact this
        clear hc1 hc2 k1 k2
        have hcall := cmp_any (xs.getD k 0) (ys.getD k 0) e1 e2 w
        have AS : Hid (xs.getD k 0 = ys.getD k 0 → ∀ j, j < k + 1 → xs.getD j 0 = ys.getD j 0) := fun e j hj => by
          by_cases ej : j = k
          · subst ej; exact e
          · exact A.out j (by omega)
        generalize hxx : xs.getD k 0 = x at *
        generalize hyy : ys.getD k 0 = y at *
        clear hxx hyy
        unfold cmp1 at hcall
        by_cases d1 : x < y
        · rw [if_pos d1] at hcall
          go_wp2_with (go_at_call 24; refine hcall.mono ?_; rintro e w' ⟨rfl, rfl⟩)
          go_ret
          exact ⟨by rw [HE.out, if_pos d1]; rfl, rfl⟩
        · rw [if_neg d1] at hcall
          by_cases d2 : y < x
          · rw [if_pos d2] at hcall
            go_wp2_with (go_at_call 24; refine hcall.mono ?_; rintro e w' ⟨rfl, rfl⟩)
            go_ret
            exact ⟨by rw [HE.out, if_neg d1, if_pos d2]; rfl, rfl⟩
          · rw [if_neg d2] at hcall
            go_wp2_with (go_at_call 24; refine hcall.mono ?_; rintro e w' ⟨rfl, rfl⟩)
            go_round
            case rel => exact ⟨k + 1, by omega, by omega, by go_num, AS.out (by omega)⟩
            case measure => simp [intOf]; omega
      · have hltz2 : (n2 : Int) ≤ (k : Int) := by omega
        have HE : Hid (cmpI xs ys = 1) := by
          have hl := HL.out
          have := HD.out
          rw [List.drop_eq_getElem_cons (show k < xs.length by omega), List.drop_eq_nil_of_le (show ys.length ≤ k by omega)] at this
          exact this
        clear hc1 k1 k2
        generalize xs.getD k 0 = x at *
        go_wp2
        go_ret
        exact ⟨by rw [HE.out]; rfl, rfl⟩
    · have hltz : ¬ (k : Int) < (n1 : Int) := by omega
      by_cases hlt2 : k < n2
      · have HE : Hid (cmpI xs ys = -1) := by
          have hl := HL.out
          have := HD.out
          rw [List.drop_eq_nil_of_le (show xs.length ≤ k by omega), List.drop_eq_getElem_cons (show k < ys.length by omega)] at this
          exact this
        have hn : (n1 : Int) < (n2 : Int) := by omega
        clear k1 k2
        go_wp2
        go_ret
        exact ⟨by rw [HE.out]; rfl, rfl⟩
      · have HE : Hid (cmpI xs ys = 0) := by
          have hl := HL.out
          have := HD.out
          rw [List.drop_eq_nil_of_le (show xs.length ≤ k by omega), List.drop_eq_nil_of_le (show ys.length ≤ k by omega)] at this
          exact this
        have hn : ¬ (n1 : Int) < (n2 : Int) := by omega
        clear k1 k2
        go_wp2
        go_ret
        exact ⟨by rw [HE.out]; rfl, rfl⟩
end Go.Proofs.YbulkcfrwFmt.Walks
