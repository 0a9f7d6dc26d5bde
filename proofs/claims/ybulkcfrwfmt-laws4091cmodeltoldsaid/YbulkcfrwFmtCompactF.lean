/- Seat b4091aF: slices.CompactFunc at a row of sets of the call's own, by slices.Equal. -/
import Derived.Test.YbulkcfrwFmtSortF
import Derived.Shelf.SlicesE.Compact
import Derived.Shelf.Abstract
namespace Go.Proofs.YbulkcfrwFmt.Walks
open Go.RowKit Plain Go.Sort Go.Lib

/-- a set's header and its mask -/
abbrev HM := (Option Addr × Nat × Nat) × Nat
def encH (x : HM) : Value := .slice x.1.1 x.1.2.1 x.1.2.2
theorem oneH : OneCell encH := fun _ => rfl
theorem kt_drewN (S : List TypeId) (w : World) (q : Nat) : KT S w (w.drewN q) := fun _ _ _ _ => rfl

/-- slices.Equal at two sets, told by masks -/
theorem eqm_any (W : World) (x y : HM) (hx : MS W (encH x) x.2) (hy : MS W (encH y) y.2) :
    Calls Ybaf.prog 22 #[.slice x.1.1 x.1.2.1 x.1.2.2, .slice y.1.1 y.1.2.1 y.1.2.2] W fun e w' => e = .returned (.bool (decide (x.2 = y.2))) ∧ ∃ q, w' = W.drewN q := by
  obtain ⟨a1, n1, c1, e1, s1, -, l1⟩ := hx
  obtain ⟨a2, n2, c2, e2, s2, -, l2⟩ := hy
  unfold encH at e1 e2
  rw [e1, e2]
  have he : decide (plc x.2 = plc y.2) = decide (x.2 = y.2) := by
    rw [decide_eq_decide]
    exact ⟨fun h => plc_inj l1 l2 h, fun h => by rw [h]⟩
  rw [← he]
  exact equal_any a1 n1 c1 _ a2 n2 c2 _ W s1 s2

theorem map_get (d : Array HM) (j : Nat) (hj : j < d.size) : (d.map (·.2))[j]! = (d[j]!).2 := by
  rw [getElem!_pos _ j (by simpa using hj), getElem!_pos _ j hj]
  simp

theorem lay_size {α : Type} : ∀ (xs : List α) (d : Array α) (k : Nat), (lay d k xs).size = d.size
  | [], _, _ => rfl
  | x :: r, d, k => by rw [lay, lay_size r]; simp

set_option maxHeartbeats 4000000 in
set_option maxRecDepth 1000000 in
theorem compactFunc_core (g cap : Nat) (d : Array HM) (w : World) (hH : Holds encH w g 0 d) (hT : Typ w g 22) (hsz : d.size ≤ 1048576) (hcap : d.size ≤ cap) (hms : ∀ i, i < d.size → MS w (encH d[i]!) (d[i]!).2) :
    Calls Ybaf.prog 21 #[.slice (some ⟨g, 0, none⟩) d.size cap, .func (.func 22) #[] #[]] w fun e w' => e = .returned (.slice (some ⟨g, 0, none⟩) (compactUpTo (d.map (·.2)) d.size).length cap) ∧ ∃ q dk, w' = putRow encH (Sort.ahead w q) g 0 dk ∧ dk.size = d.size ∧
      ∀ i, i < (compactUpTo (d.map (·.2)) d.size).length → MS w (encH dk[i]!) ((compactUpTo (d.map (·.2)) d.size).getD i 0) := by
  have v22 : ∀ w, (zeroValue 22).run Ybaf.prog w = .ok (encH ((none, 0, 0), 0)) w := Ybaf.zeroValue22
  have hMs : (d.map (·.2)).size = d.size := by simp
  have HM0 : Hid (∀ i, i < d.size → MS w (encH d[i]!) (d[i]!).2) := hms
  have same : ∀ q, (∀ j, j < d.size → keeps (d.map (·.2)) j = true) → (compactUpTo (d.map (·.2)) d.size).length = d.size ∧ ∃ q' dk, w.drewN q = putRow encH (Sort.ahead w q') g 0 dk ∧ dk.size = d.size ∧
      ∀ i, i < (compactUpTo (d.map (·.2)) d.size).length → MS w (encH dk[i]!) ((compactUpTo (d.map (·.2)) d.size).getD i 0) := by
    intro q hall
    have e : compactUpTo (d.map (·.2)) d.size = (d.map (·.2)).toList := by
      have := compactUpTo_all (d.map (·.2)) d.size hall
      rw [this, ← hMs, range_map_get]
    rw [e]
    refine ⟨by simp, q, d, (putRow_self encH (Sort.ahead w q) g 0 d (holds_ahead encH w q g 0 d hH)).symm, rfl, fun i hi => ?_⟩
    have hi' : i < d.size := by simpa using hi
    have := hms i hi'
    rw [getElem!_pos d i hi'] at this ⊢
    simpa [List.getD, hi'] using this
  have HS : Hid (∀ q, (∀ j, j < d.size → keeps (d.map (·.2)) j = true) → (compactUpTo (d.map (·.2)) d.size).length = d.size ∧ ∃ q' dk, w.drewN q = putRow encH (Sort.ahead w q') g 0 dk ∧ dk.size = d.size ∧
      ∀ i, i < (compactUpTo (d.map (·.2)) d.size).length → MS w (encH dk[i]!) ((compactUpTo (d.map (·.2)) d.size).getD i 0)) := same
  clear same hms
  by_cases h2 : d.size < 2
  · have HH : Hid (Holds encH w g 0 d) := hH
    clear hH
    have h2z : (d.size : Int) < 2 := by omega
    go_enter Ybaf.func21, Ybaf.ntmps21
    go_wp2
    go_ret
    obtain ⟨e1, e2⟩ := HS.out 0 (fun j hj => keeps_lt_one _ j (by omega))
    exact ⟨by rw [e1]; rfl, e2⟩
  · have h2z : ¬ (d.size : Int) < 2 := by omega
    have hg0 : g < w.heap.size := hT.lt
    go_enter Ybaf.func21, Ybaf.ntmps21
    go_wp2
    go_loopw [5] (fun s5 wr => ∃ k q : Nat, 1 ≤ k ∧ k ≤ d.size ∧ s5 = .int .i64 k ∧ wr = w.drewN q ∧ Hid (∀ j, j < k → keeps (d.map (·.2)) j = true)) (fun s5 _ => d.size - (intOf s5).toNat)
    case atStart => exact ⟨1, 0, Nat.le_refl _, by omega, rfl, rfl, keeps_lt_one _⟩
    case round =>
      obtain ⟨k, q, hk1, hk, rfl, hw0, A⟩ := hrel
      by_cases hlt : k < d.size
      · have hltz : (k : Int) < (d.size : Int) := by omega
        have hkz : ((k - 1 : Nat) : Int) < (d.size : Int) := by omega
        have hw1 : IntKind.i64.wrap ((k : Int) - 1) = ((k - 1 : Nat) : Int) := by simp [IntKind.wrap, IntKind.bits, IntKind.signed]; omega
        have c1 : wr.cell? ⟨g, 0 + k, none⟩ = some (encH d[k]!) := by rw [hw0]; exact (hH k hlt).1
        have c0 : wr.cell? ⟨g, 0 + (k - 1), none⟩ = some (encH d[k - 1]!) := by rw [hw0]; exact (hH (k - 1) (by omega)).1
        have m1 := HM0.out k hlt
        have m0 := HM0.out (k - 1) (by omega)
        have K1 := map_get d k hlt
        have K0 := map_get d (k - 1) (by omega)
        have HH : Hid (Holds encH w g 0 d) := hH
        clear hH
        generalize d[k]! = x at c1 m1 K1
        generalize d[k - 1]! = y at c0 m0 K0
        have B : Hid ((d.map (·.2))[k]! = x.2 ∧ (d.map (·.2))[k - 1]! = y.2) := ⟨K1, K0⟩
        have MM : Hid (MS w (encH x) x.2 ∧ MS w (encH y) y.2) := ⟨m1, m0⟩
        clear K1 K0 m1 m0
        unfold encH at c1 c0
        rw [Nat.zero_add] at c1 c0
        have HW0 : Hid (wr = w.drewN q) := hw0
        have K0 : ∀ n, KT [9] w (wr.drewN n) := fun n => by rw [hw0]; exact (kt_drewN _ w q).trans (kt_drewN _ _ n)
        have E : ∀ n, Calls Ybaf.prog 22 #[.slice x.1.1 x.1.2.1 x.1.2.2, .slice y.1.1 y.1.2.1 y.1.2.2] (wr.drewN n) fun e w' => e = .returned (.bool (decide (x.2 = y.2))) ∧ ∃ q', w' = (wr.drewN n).drewN q' := fun n =>
          eqm_any _ x y (MM.out.1.kt (K0 n) (by decide)) (MM.out.2.kt (K0 n) (by decide))
        have eg : ∀ args w, (callFunc 22 args).run Ybaf.prog w = .ok (.enter 22 args) w := enters_of Ybaf.func22 (by kernel_rfl) rfl
        clear hw0 K0
        by_cases hdup : x.2 = y.2
        · simp only [decide_eq_true hdup] at E
          go_wp2_with fail
          go_quiet (first | (go_at_call 22; refine Calls.quiet_of (E _)) | (go_at_fn 22; refine Calls.quiet_of (E _)))
          go_wp2
          clear c0 c1 E
          go_loopw [5, 7] (fun s5 s7 wr => ∃ (kk k2 q2 : Nat) (dk : Array HM), s5 = .int .i64 kk ∧ s7 = .int .i64 k2 ∧ 1 ≤ k2 ∧ k + k2 ≤ d.size ∧ wr = putRow encH (Sort.ahead w q2) g 0 dk ∧ CompInv (d.map (·.2)) (k + k2) kk (dk.map (·.2)) ∧ Hid (∀ i, i < d.size → MS w (encH dk[i]!) (dk[i]!).2)) (fun _ s7 _ => d.size - (intOf s7).toNat)
          case atStart => exact ⟨k, 1, q + nq, d, rfl, rfl, Nat.le_refl _, by omega, by rw [HW0.out, World.drewN_drewN]; exact (putRow_self encH (Sort.ahead w (q + nq)) g 0 d (holds_ahead encH w (q + nq) g 0 d HH.out)).symm, CompInv.start A.out (keeps_neg (by omega) (by rw [B.out.1, B.out.2, hdup])), HM0.out⟩
          case round =>
            obtain ⟨kk, k2, q2, dk, rfl, rfl, h1, hle, hwr, hI, DM⟩ := hrel
            have hkk := hI.lt
            have hds : dk.size = d.size := by simpa using hI.size
            have hHk : Holds encH wr g 0 dk := by rw [hwr]; exact holds_putRow encH _ g 0 d dk (holds_ahead encH w q2 g 0 d HH.out) hds
            have W2 : Hid (wr = putRow encH (Sort.ahead w q2) g 0 dk) := hwr
            have I2 : Hid (CompInv (d.map (·.2)) (k + k2) kk (dk.map (·.2))) := hI
            have KW : ∀ n, KT [9] w (wr.drewN n) := fun n => by
              rw [hwr]
              have := kt_put encH w q2 g 0 dk #[] hT [9] (by decide)
              rw [grow_empty] at this
              exact this.trans (kt_drewN _ _ n)
            clear hwr
            by_cases hlt2 : k + k2 < d.size
            · have hlt2z : (k2 : Int) < ((d.size - k : Nat) : Int) := by omega
              have hk2z : ((k2 - 1 : Nat) : Int) < ((d.size - k : Nat) : Int) := by omega
              have hkkz : (kk : Int) < (d.size : Int) := by omega
              have hw2 : IntKind.i64.wrap ((k2 : Int) - 1) = ((k2 - 1 : Nat) : Int) := by simp [IntKind.wrap, IntKind.bits, IntKind.signed]; omega
              obtain ⟨cm, _⟩ := hHk (k + k2) (by omega)
              obtain ⟨cp, _⟩ := hHk (k + (k2 - 1)) (by omega)
              obtain ⟨ck, fk⟩ := hHk kk (by omega)
              have km := map_get dk (k + k2) (by omega)
              have kp := map_get dk (k + (k2 - 1)) (by omega)
              rw [hI.high (k + k2) (by omega)] at km
              rw [hI.high (k + (k2 - 1)) (by omega)] at kp
              have mm := DM.out (k + k2) (by omega)
              have mp := DM.out (k + (k2 - 1)) (by omega)
              rw [Nat.zero_add] at cm cp ck fk
              clear hHk hI
              generalize dk[k + k2]! = x' at cm km mm
              generalize dk[k + (k2 - 1)]! = y' at cp kp mp
              generalize encH dk[kk]! = old at ck
              have C : Hid ((d.map (·.2))[k + k2]! = x'.2 ∧ (d.map (·.2))[k + (k2 - 1)]! = y'.2) := ⟨km, kp⟩
              have M2 : Hid (MS w (encH x') x'.2 ∧ MS w (encH y') y'.2) := ⟨mm, mp⟩
              clear km kp mm mp
              unfold encH at cm cp
              have E : ∀ n, Calls Ybaf.prog 22 #[.slice x'.1.1 x'.1.2.1 x'.1.2.2, .slice y'.1.1 y'.1.2.1 y'.1.2.2] (wr.drewN n) fun e w' => e = .returned (.bool (decide (x'.2 = y'.2))) ∧ ∃ q', w' = (wr.drewN n).drewN q' := fun n =>
                eqm_any _ x' y' (M2.out.1.kt (KW n) (by decide)) (M2.out.2.kt (KW n) (by decide))
              clear KW
              by_cases huv : x'.2 = y'.2
              · simp only [decide_eq_true huv] at E
                go_wp2_with fail
                go_quiet (first | (go_at_call 22; refine Calls.quiet_of (E _)) | (go_at_fn 22; refine Calls.quiet_of (E _)))
                go_wp2
                go_roundw
                case rel => exact ⟨kk, k2 + 1, q2 + nq, dk, rfl, by go_num, by omega, by omega, by rw [W2.out, putRow_drewN], I2.out.skip (keeps_neg (by omega) (by rw [show k + k2 - 1 = k + (k2 - 1) by omega, C.out.1, C.out.2, huv])), DM⟩
                case measure => simp [intOf]; omega
              · simp only [decide_eq_false huv] at E
                go_wp2_with fail
                go_quiet (first | (go_at_call 22; refine Calls.quiet_of (E _)) | (go_at_fn 22; refine Calls.quiet_of (E _)))
                go_wp2
                go_roundw
                case rel =>
                  refine ⟨kk + 1, k2 + 1, q2 + nq, dk.setIfInBounds kk x', by go_num, by go_num, by omega, by omega, ?_, ?_, ?_⟩
                  · rw [W2.out, ← putRow_set encH _ g 0 dk kk x' (by omega), putRow_drewN, Nat.zero_add]
                    rfl
                  · have := I2.out.keep (by simpa using hlt2) (keeps_pos (by rw [show k + k2 - 1 = k + (k2 - 1) by omega, C.out.1, C.out.2]; exact huv))
                    rw [C.out.1] at this
                    rw [Array.map_setIfInBounds]
                    exact this
                  · intro i hi
                    by_cases e : i = kk
                    · subst e
                      rw [getElem!_set_same dk i x' (by omega)]
                      exact M2.out.1
                    · rw [getElem!_set_other dk kk i x' e]
                      exact DM.out i hi
                case measure => simp [intOf]; omega
            · have hend : k + k2 = d.size := by omega
              have hlt2z : ¬ (k2 : Int) < ((d.size - k : Nat) : Int) := by omega
              have hcl : ∀ ty, (Builtin.clear_ #[31] ty #[.slice (some ⟨g, kk, none⟩) (d.size - kk) (cap - kk)]).run Ybaf.prog wr = .ok (.tuple #[]) (wr.setCells g kk (List.replicate (d.size - kk) (encH ((none, 0, 0), 0)))) :=
                fun ty => Lib.run_clear_slice wr _ _ ty _ Ybaf.underlying31 v22 rfl rfl g kk _ _ (by omega) (fun j hj => by have := (hHk (kk + j) (by omega)).1; rw [Nat.zero_add] at this; rw [this]; rfl) (fun j hj => by have := (hHk (kk + j) (by omega)).2; rw [Nat.zero_add] at this; exact this)
              clear hHk hI
              go_wp2
              go_ret
              have hI := I2.out
              rw [hend] at hI
              have hds' := hds
              refine ⟨by rw [hI.len]; rfl, q2, lay dk kk (List.replicate (d.size - kk) ((none, 0, 0), 0)), ?_, ?_, fun i hi => ?_⟩
              · rw [← putRow_setCells encH _ g 0 _ dk kk (by simp; omega), ← W2.out, List.map_replicate, Nat.zero_add]
              · rw [lay_size, hds']
              · rw [hI.len] at hi
                have h5 := hI.low i hi
                rw [map_get dk i (by omega)] at h5
                have h6 := DM.out i (by omega)
                have h7 : (lay dk kk (List.replicate (d.size - kk) (((none, 0, 0), 0) : HM)))[i]! = dk[i]! := by
                  have := lay_get? (List.replicate (d.size - kk) (((none, 0, 0), 0) : HM)) dk kk i (by simp; omega)
                  rw [if_neg (by omega)] at this
                  simp only [Array.getElem!_eq_getD, Array.getD_eq_getD_getElem?, this]
                rw [h7, h5]
                exact h6
        · simp only [decide_eq_false hdup] at E
          go_wp2_with fail
          go_quiet (first | (go_at_call 22; refine Calls.quiet_of (E _)) | (go_at_fn 22; refine Calls.quiet_of (E _)))
          go_wp2
          go_roundw
          case rel =>
            refine ⟨k + 1, q + nq, by omega, by omega, by go_num, by rw [HW0.out, World.drewN_drewN], fun j hj => ?_⟩
            by_cases e : j = k
            · subst e
              exact keeps_pos (by rw [B.out.1, B.out.2]; exact hdup)
            · exact A.out j (by omega)
          case measure => simp [intOf]; omega
      · obtain rfl : k = d.size := by omega
        have HH : Hid (Holds encH w g 0 d) := hH
        have HW0 : Hid (wr = w.drewN q) := hw0
        clear hH hw0
        go_wp2
        go_ret
        obtain ⟨e1, e2⟩ := HS.out q A.out
        exact ⟨by rw [e1]; rfl, by rw [HW0.out]; exact e2⟩

/-- Compact over a row that is sorted by the sets' order -/
theorem compact_rising (M : Array Nat) (hM : ∀ i, i < M.size → M[i]! < 256) (hs : ∀ i j, i < j → j < M.size → ¬ mcmp M[j]! M[i]! < 0) : ∀ m, m ≤ M.size →
    (compactUpTo M m).Pairwise (fun a b => mcmp a b < 0) ∧ (∀ x, x ∈ compactUpTo M m ↔ ∃ j, j < m ∧ M[j]! = x)
  | 0, _ => by simp [compactUpTo]
  | m + 1, hm => by
    obtain ⟨h1, h2⟩ := compact_rising M hM hs m (by omega)
    rw [compactUpTo_succ]
    by_cases hk : keeps M m = true
    · rw [if_pos hk]
      refine ⟨List.pairwise_append.2 ⟨h1, by simp, fun x hx y hy => ?_⟩, fun x => ?_⟩
      · obtain ⟨j, hj, e⟩ := (h2 x).1 hx
        simp at hy
        subst hy e
        have h5 : M[m]! ≠ M[m - 1]! := by
          simp [keeps] at hk
          rcases hk with hk | hk
          · omega
          · exact hk
        have h4 : mcmp M[m - 1]! M[m]! < 0 := by
          have a1 := hs (m - 1) m (by omega) (by omega)
          have a2 := cmpI_neg (plc M[m]!) (plc M[m - 1]!)
          have a3 := cmpI_neg (plc M[m - 1]!) (plc M[m]!)
          have a4 : mcmp M[m]! M[m - 1]! ≠ 0 := fun e => h5 (plc_inj (hM m (by omega)) (hM (m - 1) (by omega)) (cmpI_eq _ _ e))
          unfold mcmp at *
          omega
        by_cases e : j = m - 1
        · subst e; exact h4
        · have a1 := hs j (m - 1) (by omega) (by omega)
          by_cases e2 : mcmp M[j]! M[m - 1]! = 0
          · have := plc_inj (hM j (by omega)) (hM (m - 1) (by omega)) (cmpI_eq _ _ e2)
            rw [this]; exact h4
          · have a2 := cmpI_neg (plc M[m - 1]!) (plc M[j]!)
            have : mcmp M[j]! M[m - 1]! < 0 := by unfold mcmp at *; omega
            exact cmpI_trans _ _ _ this h4
      · rw [List.mem_append, h2 x]
        constructor
        · rintro (⟨j, hj, e⟩ | e)
          · exact ⟨j, by omega, e⟩
          · simp at e; exact ⟨m, by omega, e.symm⟩
        · rintro ⟨j, hj, e⟩
          by_cases ej : j = m
          · subst ej; exact .inr (by simp [e])
          · exact .inl ⟨j, by omega, e⟩
    · rw [if_neg hk, List.append_nil]
      refine ⟨h1, fun x => ?_⟩
      rw [h2 x]
      constructor
      · rintro ⟨j, hj, e⟩; exact ⟨j, by omega, e⟩
      · rintro ⟨j, hj, e⟩
        by_cases ej : j = m
        · subst ej
          have hk' : keeps M j = false := by simpa using hk
          simp [keeps] at hk'
          exact ⟨j - 1, by omega, by rw [← hk'.2]; exact e⟩
        · exact ⟨j, by omega, e⟩

/-- slices.CompactFunc at a sorted row of sets of the call's own -/
theorem compactFunc_any (w : World) (base : Nat) (v : Value) (n : Nat) (ms : List Nat) (h : OR w base v n ms) (hs : ∀ i j, i < j → j < n → ¬ mcmp (ms.getD j 0) (ms.getD i 0) < 0) :
    Calls Ybaf.prog 21 #[v, .func (.func 22) #[] #[]] w fun e w' => ∃ v' ms', e = .returned v' ∧ SV w' v' ms' ∧ ms'.Pairwise (fun a b => mcmp a b < 0) ∧ (∀ x, x ∈ ms' ↔ x ∈ ms) ∧ Below base w w' := by
  obtain ⟨vs, hown, hl, hn, hms⟩ := h
  have hvl : vs.length = n := by have := hown.1; simpa using this
  by_cases h0 : n = 0
  · subst h0
    obtain ⟨a, c, rfl, -, -, hnice⟩ := owns_row hown
    have e : ms = [] := List.length_eq_zero_iff.1 hl
    subst e
    have HN : Hid (Nice a 0 c) := hnice
    clear hown hms hs hnice
    go_enter Ybaf.func21, Ybaf.ntmps21
    go_wp2
    go_ret
    exact ⟨_, [], rfl, ⟨a, 0, c, fun _ => undef, rfl, ⟨rfl, by omega, fun h => absurd h (by omega), fun i hi => absurd hi (by omega)⟩, HN.out⟩, List.Pairwise.nil, fun x => Iff.rfl, Below.refl _ _⟩
  · rcases hown.2 with ⟨_, e⟩ | ⟨g, cap, cur, rfl, -⟩
    · exact absurd e h0
    · let dl : List HM := (List.range n).map fun i => match vs.getD i undef with | .slice a k c => ((a, k, c), ms.getD i 0) | _ => ((none, 0, 0), 0)
      have hdl : dl.length = n := by simp [dl]
      have hge : ∀ i, (hi : i < n) → encH (dl[i]'(by omega)) = vs.getD i undef ∧ (dl[i]'(by omega)).2 = ms.getD i 0 := fun i hi => by
        obtain ⟨a, k, c, e, -⟩ := hms i hi
        simp only [dl, List.getElem_map, List.getElem_range, e]
        exact ⟨rfl, trivial⟩
      have hvs : vs = dl.map encH := by
        apply List.ext_getElem
        · simp [hvl, hdl]
        · intro i h1 h2
          have := (hge i (by omega)).1
          rw [List.getElem_map, this]
          simp [List.getD, h1]
      have hmm : (dl.toArray.map (·.2)) = ms.toArray := by
        apply Array.ext
        · simp [hdl, hl]
        · intro i h1 h2
          have hi : i < n := by simpa [hdl] using h1
          have := (hge i hi).2
          simp only [List.map_toArray, List.getElem_toArray, List.getElem_map, this]
          simp [List.getD, show i < ms.length by omega]
      have hown' : w.ownsRow base 22 1 (.slice (some ⟨g, 0, none⟩) n cap) n (dl.map encH) := by rw [← hvs]; exact hown
      obtain ⟨hH, -, hb, hg, hc, ht⟩ := owns_holds encH hown'
      have hdm : ∀ i, i < dl.toArray.size → MS w (encH dl.toArray[i]!) (dl.toArray[i]!).2 := fun i hi => by
        have hi' : i < n := by simpa [hdl] using hi
        rw [getElem!_pos _ i hi]
        have := hms i hi'
        rw [← (hge i hi').1, ← (hge i hi').2] at this
        exact this
      have key := compactFunc_core g cap dl.toArray w hH ht (by simpa [hdl] using hn) (by simpa [hdl] using hc) hdm
      rw [hmm] at key
      have hsz : dl.toArray.size = n := by simp [hdl]
      rw [hsz] at key
      have hget : ∀ i, i < n → ms.toArray[i]! = ms.getD i 0 := fun i hi => by
        rw [getElem!_pos _ i (by simpa [hl] using hi)]
        simp [List.getD, show i < ms.length by omega]
      have hri := compact_rising ms.toArray (fun i hi => by
          have hi' : i < n := by simpa [hl] using hi
          rw [hget i hi']
          obtain ⟨_, _, _, _, _, _, h⟩ := hms i hi'
          exact h) (fun i j hij hj => by
          have hj' : j < n := by simpa [hl] using hj
          rw [hget i (by omega), hget j hj']
          exact hs i j hij hj') n (by simp [hl])
      have hlen : (compactUpTo ms.toArray n).length ≤ n := by
        unfold compactUpTo
        rw [List.length_map]
        refine Nat.le_trans (List.length_filter_le _ _) ?_
        simp
      generalize hR : compactUpTo ms.toArray n = R at *
      refine key.mono fun e w' ⟨h1, q, dk, h2, h3, h4⟩ => ⟨_, R, h1, ?_, hri.1, fun x => ?_, ?_⟩
      · have hp := owns_put encH hown' q dk (by omega) #[]
        rw [grow_empty, ← h2] at hp
        have hl2 : dk.toList.length = n := by simp; omega
        obtain ⟨hH', -, -, -, -, ht'⟩ := owns_holds encH hp
        have kt : KT [9] w w' := by
          have := kt_put encH w q g 0 dk #[] ht [9] (by decide)
          rw [grow_empty, ← h2] at this
          exact this
        refine ⟨_, _, _, fun i => encH dk[i]!, rfl, ⟨rfl, by omega, fun hpos => ⟨g, 0, rfl, ht', fun i hi => ?_⟩, fun i hi => (h4 i hi).kt kt (by decide)⟩, (fun h => by cases h), (fun ad h => by cases h; exact ⟨_, _, rfl⟩)⟩
        have := (hH' i (by simp; omega)).1
        simpa using this
      · rw [hri.2 x]
        constructor
        · rintro ⟨j, hj, rfl⟩
          rw [hget j hj, List.getD, List.getElem?_eq_getElem (by omega)]
          simp
        · intro hx
          obtain ⟨i, hi, e⟩ := List.getElem_of_mem hx
          refine ⟨i, by omega, ?_⟩
          rw [getElem!_pos _ i (by simpa using hi)]
          simpa using e
      · have := below_put encH w q g 0 dk #[] base hb hg
        rw [grow_empty, ← h2] at this
        exact this
end Go.Proofs.YbulkcfrwFmt.Walks
