/- Seat b4091a: the walks of the library's leaves on the road (Index, Contains, IndexFunc, ContainsFunc, Equal) and of the law's own eq. -/
import Derived.Test.YbulkcfrwProg
import Derived.Test.YbulkcfrwPlain
import Derived.WalkKit
import Derived.WalkSpells
import Derived.WalkLawsBesides
import Derived.RegionTactic
import Derived.Lib.Walk
import Derived.Deep.QuietTactic
import Derived.BigQuiet
import Derived.WalkSmall
import Derived.Shelf.Abstract
namespace Go.Proofs.Ybulkcfrw.Walks
open Go.RowKit Plain

/-- slices.Index at []string: at least 0 just where v is among them. -/
theorem index_any (a : Option Addr) (n c : Nat) (ss : List ByteArray) (v : ByteArray) (w : World) (h : SL w a n ss) :
    Calls Yba.prog 17 #[.slice a n c, .string v] w fun e w' => ∃ r : Int, e = .returned (.int .i64 r) ∧ decide (0 ≤ r) = hasv ss v ∧ w = w' := by
  obtain ⟨h1, h2, h3⟩ := h
  by_cases hn : n = 0
  · subst hn
    obtain rfl : ss = [] := List.length_eq_zero_iff.1 h1
    go_enter Yba.func17, Yba.ntmps17
    go_wp2
    refine wp_loop_rounds 1 ?_
    rw [rounds_succ]
    go_wp2
    go_ret
    exact ⟨-1, rfl, rfl, rfl⟩
  · obtain ⟨b, off, rfl, hb, hc⟩ := h3 (by omega)
    have HC : Hid (∀ i, i < n → w.cell? ⟨b, off + i, none⟩ = some (.string (ss.getD i ByteArray.empty))) := hc
    clear hc h3
    go_enter Yba.func17, Yba.ntmps17
    go_wp2
    go_loop [5, 8] (fun _ i => ∃ k : Nat, k ≤ n ∧ i = .int .i64 k ∧ Hid (∀ j, j < k → ss.getD j ByteArray.empty ≠ v)) (fun _ i => n - (intOf i).toNat)
    case atStart => exact ⟨0, Nat.zero_le _, rfl, fun j hj => absurd hj (Nat.not_lt_zero _)⟩
    case round =>
      obtain ⟨k, hk, rfl, A⟩ := hrel
      by_cases hlt : k < n
      · have q0 := HC.out k hlt
        have hm : ss.getD k ByteArray.empty ∈ ss := by rw [List.getD, List.getElem?_eq_getElem (by omega)]; simp
        have HM : Hid (ss.getD k ByteArray.empty ∈ ss) := hm
        clear hm
        generalize hx : ss.getD k ByteArray.empty = x at q0 HM
        have HX : Hid (ss.getD k ByteArray.empty = x) := hx
        clear hx
        by_cases he : v = x
        · have hq : (v.toList == x.toList) = true := beq_true.2 he
          have HE : Hid (v = x) := he
          clear he
          go_wp2
          go_ret
          refine ⟨k, rfl, ?_, rfl⟩
          rw [(hasv_iff ss v).2 (by rw [HE.out]; exact HM.out)]
          simp
        · have hq : (v.toList == x.toList) = false := beq_false.2 he
          have HE : Hid (v ≠ x) := he
          clear he
          go_wp2
          go_round
          case rel => exact ⟨k + 1, by omega, by go_num, fun j hj => by
              by_cases e : j = k
              · subst e; rw [HX.out]; exact fun e' => HE.out e'.symm
              · exact A.out j (by omega)⟩
          case measure => simp [intOf]; omega
      · go_wp2
        go_ret
        refine ⟨-1, rfl, ?_, rfl⟩
        have : ¬ hasv ss v = true := by
          rw [hasv_iff]
          intro hm
          obtain ⟨i, hi, e⟩ := List.getElem_of_mem hm
          exact A.out i (by omega) (by rw [List.getD, List.getElem?_eq_getElem hi]; exact e)
        simp at this
        rw [this]; rfl

/-- slices.Contains at []string. -/
theorem contains_any (a : Option Addr) (n c : Nat) (ss : List ByteArray) (v : ByteArray) (w : World) (h : SL w a n ss) :
    Calls Yba.prog 9 #[.slice a n c, .string v] w fun e w' => e = .returned (.bool (hasv ss v)) ∧ w = w' := by
  have hI := index_any a n c ss v w h
  clear h
  generalize hasv ss v = r at *
  go_enter Yba.func9, Yba.ntmps9
  go_wp2_with (go_at_call 17; refine hI.mono ?_; rintro e w' ⟨i, rfl, hr, rfl⟩)
  go_ret
  refine ⟨?_, rfl⟩
  rfl

set_option maxHeartbeats 1000000 in
/-- slices.IndexFunc at []string, whatever closure. -/
theorem indexFunc_any (g : Nat) (cb : Array Value) (eg : ∀ args w, (callFunc g args).run Yba.prog w = .ok (.enter g args) w) (a : Option Addr) (n c : Nat) (ss : List ByteArray) (p : Nat → Bool) (w : World)
    (h2 : n ≤ 9223372036854775807) (h3 : 0 < n → ∃ b off, a = some ⟨b, off, none⟩ ∧ b < w.heap.size ∧ ∀ i, i < n → w.cell? ⟨b, off + i, none⟩ = some (.string (ss.getD i ByteArray.empty)))
    (hp : ∀ W, Below w.heap.size w W → ∀ i, i < n → Calls Yba.prog g (#[.string (ss.getD i ByteArray.empty)] ++ cb) W fun e w' => e = .returned (.bool (p i)) ∧ Below W.heap.size W w') :
    Calls Yba.prog 16 #[.slice a n c, .func (.func g) #[] cb] w fun e w' => ∃ r : Int, e = .returned (.int .i64 r) ∧ decide (0 ≤ r) = anyTo p n ∧ Below w.heap.size w w' := by
  by_cases hn : n = 0
  · subst hn
    go_enter Yba.func16, Yba.ntmps16
    go_wp2
    refine wp_loop_rounds 1 ?_
    rw [rounds_succ]
    go_wp2
    go_ret
    exact ⟨-1, rfl, rfl, Below.refl _ _⟩
  · obtain ⟨b, off, rfl, hb, hc⟩ := h3 (by omega)
    have HC : Hid (∀ i, i < n → w.cell? ⟨b, off + i, none⟩ = some (.string (ss.getD i ByteArray.empty))) := hc
    have HP : Hid (∀ W, Below w.heap.size w W → ∀ i, i < n → Calls Yba.prog g (#[.string (ss.getD i ByteArray.empty)] ++ cb) W fun e w' => e = .returned (.bool (p i)) ∧ Below W.heap.size W w') := hp
    clear hc h3 hp
    go_enter Yba.func16, Yba.ntmps16
    go_wp2
    go_loopw [5, 8] (fun _ i wr => ∃ k : Nat, k ≤ n ∧ i = .int .i64 k ∧ Below w.heap.size w wr ∧ Hid (∀ j, j < k → p j = false)) (fun _ i _ => n - (intOf i).toNat)
    case atStart => exact ⟨0, Nat.zero_le _, rfl, Below.refl _ _, fun j hj => absurd hj (Nat.not_lt_zero _)⟩
    case round =>
      obtain ⟨k, hk, rfl, hbr, A⟩ := hrel
      by_cases hlt : k < n
      · have q0 := (hbr.cell (p := ⟨b, off + k, none⟩) hb).trans (HC.out k hlt)
        have hcall := HP.out wr hbr k hlt
        have hltz : (k : Int) < (n : Int) := by omega
        generalize Value.string (ss.getD k ByteArray.empty) = x at q0 hcall
        cases hq : p k with
        | true =>
          rw [hq] at hcall
          have HQ : Hid (p k = true) := hq
          clear hq
          go_wp2_with (go_at_fn g; refine hcall.mono ?_; rintro e w' ⟨rfl, hbx⟩)
          go_ret
          refine ⟨k, rfl, ?_, hbr.trans (‹Below wr.heap.size wr _›.mono hbr.size)⟩
          rw [anyTo_true p n k hlt HQ.out]
          simp
        | false =>
          rw [hq] at hcall
          have HQ : Hid (p k = false) := hq
          clear hq
          go_wp2_with (go_at_fn g; refine hcall.mono ?_; rintro e w' ⟨rfl, hbx⟩)
          go_roundw
          case rel => exact ⟨k + 1, by omega, by go_num, hbr.trans (‹Below wr.heap.size wr _›.mono hbr.size), fun j hj => by
              by_cases e : j = k
              · subst e; exact HQ.out
              · exact A.out j (by omega)⟩
          case measure => simp [intOf]; omega
      · have hltz : ¬ (k : Int) < (n : Int) := by omega
        obtain rfl : k = n := by omega
        go_wp2
        go_ret
        refine ⟨-1, rfl, ?_, hbr⟩
        rw [anyTo_false p k A.out]
        rfl

/-- slices.ContainsFunc at []string. -/
theorem containsFunc_any (g : Nat) (cb : Array Value) (eg : ∀ args w, (callFunc g args).run Yba.prog w = .ok (.enter g args) w) (a : Option Addr) (n c : Nat) (ss : List ByteArray) (p : Nat → Bool) (w : World)
    (h2 : n ≤ 9223372036854775807) (h3 : 0 < n → ∃ b off, a = some ⟨b, off, none⟩ ∧ b < w.heap.size ∧ ∀ i, i < n → w.cell? ⟨b, off + i, none⟩ = some (.string (ss.getD i ByteArray.empty)))
    (hp : ∀ W, Below w.heap.size w W → ∀ i, i < n → Calls Yba.prog g (#[.string (ss.getD i ByteArray.empty)] ++ cb) W fun e w' => e = .returned (.bool (p i)) ∧ Below W.heap.size W w') :
    Calls Yba.prog 7 #[.slice a n c, .func (.func g) #[] cb] w fun e w' => e = .returned (.bool (anyTo p n)) ∧ Below w.heap.size w w' := by
  have hI := indexFunc_any g cb eg a n c ss p w h2 h3 hp
  clear h3 hp eg
  generalize anyTo p n = r at *
  go_enter Yba.func7, Yba.ntmps7
  go_wp2_with (go_at_call 16; refine hI.mono ?_; rintro e w' ⟨i, rfl, hr, hb⟩)
  go_ret
  exact ⟨rfl, by assumption⟩

set_option maxHeartbeats 1000000 in
/-- slices.IndexFunc at [][]string, whatever closure. -/
theorem indexFuncs_any (g : Nat) (cb : Array Value) (eg : ∀ args w, (callFunc g args).run Yba.prog w = .ok (.enter g args) w) (a : Option Addr) (n c : Nat) (V : Nat → Value) (p : Nat → Bool) (w : World)
    (h2 : n ≤ 9223372036854775807) (h3 : 0 < n → ∃ b off, a = some ⟨b, off, none⟩ ∧ b < w.heap.size ∧ ∀ i, i < n → w.cell? ⟨b, off + i, none⟩ = some (V i))
    (hp : ∀ W, Below w.heap.size w W → ∀ i, i < n → Calls Yba.prog g (#[V i] ++ cb) W fun e w' => e = .returned (.bool (p i)) ∧ Below W.heap.size W w') :
    Calls Yba.prog 18 #[.slice a n c, .func (.func g) #[] cb] w fun e w' => ∃ r : Int, e = .returned (.int .i64 r) ∧ decide (0 ≤ r) = anyTo p n ∧ Below w.heap.size w w' := by
  by_cases hn : n = 0
  · subst hn
    go_enter Yba.func18, Yba.ntmps18
    go_wp2
    refine wp_loop_rounds 1 ?_
    rw [rounds_succ]
    go_wp2
    go_ret
    exact ⟨-1, rfl, rfl, Below.refl _ _⟩
  · obtain ⟨b, off, rfl, hb, hc⟩ := h3 (by omega)
    have HC : Hid (∀ i, i < n → w.cell? ⟨b, off + i, none⟩ = some (V i)) := hc
    have HP : Hid (∀ W, Below w.heap.size w W → ∀ i, i < n → Calls Yba.prog g (#[V i] ++ cb) W fun e w' => e = .returned (.bool (p i)) ∧ Below W.heap.size W w') := hp
    clear hc h3 hp
    go_enter Yba.func18, Yba.ntmps18
    go_wp2
    go_loopw [5, 8] (fun _ i wr => ∃ k : Nat, k ≤ n ∧ i = .int .i64 k ∧ Below w.heap.size w wr ∧ Hid (∀ j, j < k → p j = false)) (fun _ i _ => n - (intOf i).toNat)
    case atStart => exact ⟨0, Nat.zero_le _, rfl, Below.refl _ _, fun j hj => absurd hj (Nat.not_lt_zero _)⟩
    case round =>
      obtain ⟨k, hk, rfl, hbr, A⟩ := hrel
      by_cases hlt : k < n
      · have q0 := (hbr.cell (p := ⟨b, off + k, none⟩) hb).trans (HC.out k hlt)
        have hcall := HP.out wr hbr k hlt
        have hltz : (k : Int) < (n : Int) := by omega
        generalize V k = x at q0 hcall
        cases hq : p k with
        | true =>
          rw [hq] at hcall
          have HQ : Hid (p k = true) := hq
          clear hq
          go_wp2_with (go_at_fn g; refine hcall.mono ?_; rintro e w' ⟨rfl, hbx⟩)
          go_ret
          refine ⟨k, rfl, ?_, hbr.trans (‹Below wr.heap.size wr _›.mono hbr.size)⟩
          rw [anyTo_true p n k hlt HQ.out]
          simp
        | false =>
          rw [hq] at hcall
          have HQ : Hid (p k = false) := hq
          clear hq
          go_wp2_with (go_at_fn g; refine hcall.mono ?_; rintro e w' ⟨rfl, hbx⟩)
          go_roundw
          case rel => exact ⟨k + 1, by omega, by go_num, hbr.trans (‹Below wr.heap.size wr _›.mono hbr.size), fun j hj => by
              by_cases e : j = k
              · subst e; exact HQ.out
              · exact A.out j (by omega)⟩
          case measure => simp [intOf]; omega
      · have hltz : ¬ (k : Int) < (n : Int) := by omega
        obtain rfl : k = n := by omega
        go_wp2
        go_ret
        refine ⟨-1, rfl, ?_, hbr⟩
        rw [anyTo_false p k A.out]
        rfl

/-- slices.ContainsFunc at [][]string. -/
theorem containsFuncs_any (g : Nat) (cb : Array Value) (eg : ∀ args w, (callFunc g args).run Yba.prog w = .ok (.enter g args) w) (a : Option Addr) (n c : Nat) (V : Nat → Value) (p : Nat → Bool) (w : World)
    (h2 : n ≤ 9223372036854775807) (h3 : 0 < n → ∃ b off, a = some ⟨b, off, none⟩ ∧ b < w.heap.size ∧ ∀ i, i < n → w.cell? ⟨b, off + i, none⟩ = some (V i))
    (hp : ∀ W, Below w.heap.size w W → ∀ i, i < n → Calls Yba.prog g (#[V i] ++ cb) W fun e w' => e = .returned (.bool (p i)) ∧ Below W.heap.size W w') :
    Calls Yba.prog 10 #[.slice a n c, .func (.func g) #[] cb] w fun e w' => e = .returned (.bool (anyTo p n)) ∧ Below w.heap.size w w' := by
  have hI := indexFuncs_any g cb eg a n c V p w h2 h3 hp
  clear h3 hp eg
  generalize anyTo p n = r at *
  go_enter Yba.func10, Yba.ntmps10
  go_wp2_with (go_at_call 18; refine hI.mono ?_; rintro e w' ⟨i, rfl, hr, hb⟩)
  go_ret
  exact ⟨rfl, by assumption⟩

set_option maxHeartbeats 1000000 in
/-- slices.Equal at []string. -/
theorem equal_any (a1 : Option Addr) (n1 c1 : Nat) (xs : List ByteArray) (a2 : Option Addr) (n2 c2 : Nat) (ys : List ByteArray) (w : World) (h1 : SL w a1 n1 xs) (h2 : SL w a2 n2 ys) :
    Calls Yba.prog 13 #[.slice a1 n1 c1, .slice a2 n2 c2] w fun e w' => e = .returned (.bool (eqss xs ys)) ∧ Below w.heap.size w w' := by
  obtain ⟨l1, m1, k1⟩ := h1
  obtain ⟨l2, m2, k2⟩ := h2
  by_cases hne : n1 = n2
  · subst hne
    have d0 : ((n1 : Int) != (n1 : Int)) = false := by simp
    by_cases hn : n1 = 0
    · subst hn
      have e1 : xs = [] := List.length_eq_zero_iff.1 l1
      have e2 : ys = [] := List.length_eq_zero_iff.1 l2
      have e3 : eqss xs ys = true := by rw [e1, e2]; rfl
      rw [e3]
      clear e1 e2 e3 d0
      go_enter Yba.func13, Yba.ntmps13
      go_wp2
      refine wp_loop_rounds 1 ?_
      rw [rounds_succ]
      go_wp2
      go_ret
      exact ⟨rfl, Below.refl _ _⟩
    · obtain ⟨b1, o1, rfl, hb1, hc1⟩ := k1 (by omega)
      obtain ⟨b2, o2, rfl, hb2, hc2⟩ := k2 (by omega)
      have HC1 : Hid (∀ i, i < n1 → w.cell? ⟨b1, o1 + i, none⟩ = some (.string (xs.getD i ByteArray.empty))) := hc1
      have HC2 : Hid (∀ i, i < n1 → w.cell? ⟨b2, o2 + i, none⟩ = some (.string (ys.getD i ByteArray.empty))) := hc2
      clear hc1 hc2 k1 k2
      go_enter Yba.func13, Yba.ntmps13
      go_wp2
      go_loopw [5, 13] (fun _ i wr => ∃ k : Nat, k ≤ n1 ∧ i = .int .i64 k ∧ (∃ q, wr = w.drewN q) ∧ Hid (∀ j, j < k → xs.getD j ByteArray.empty = ys.getD j ByteArray.empty)) (fun _ i _ => n1 - (intOf i).toNat)
      case atStart => exact ⟨0, Nat.zero_le _, rfl, ⟨0, rfl⟩, fun j hj => absurd hj (Nat.not_lt_zero _)⟩
      case round =>
        obtain ⟨k, hk, rfl, ⟨q, rfl⟩, A⟩ := hrel
        by_cases hlt : k < n1
        · have q1 := HC1.out k hlt
          have q2 := HC2.out k hlt
          have hltz : (k : Int) < (n1 : Int) := by omega
          by_cases he : xs.getD k ByteArray.empty = ys.getD k ByteArray.empty
          · have HE : Hid (xs.getD k ByteArray.empty = ys.getD k ByteArray.empty) := he
            rw [← he] at q2
            clear he
            generalize xs.getD k ByteArray.empty = x at q1 q2
            go_wp2
            go_quiet (fail)
            go_wp2
            go_roundw
            case rel => exact ⟨k + 1, by omega, by go_num, ⟨q + nq, rfl⟩, fun j hj => by
                by_cases e : j = k
                · subst e; exact HE.out
                · exact A.out j (by omega)⟩
            case measure => simp [intOf]; omega
          · have HE : Hid (xs.getD k ByteArray.empty ≠ ys.getD k ByteArray.empty) := he
            have hfin : eqss xs ys = false := by
              rw [← Bool.not_eq_true, eqss_iff]
              intro e; exact he (by rw [e])
            have HF : Hid (eqss xs ys = false) := hfin
            clear hfin
            have hb : ((xs.getD k ByteArray.empty).toList == (ys.getD k ByteArray.empty).toList) = false := beq_false.2 he
            clear he
            generalize xs.getD k ByteArray.empty = x at q1 hb
            generalize ys.getD k ByteArray.empty = y at q2 hb
            go_wp2
            go_quiet (fail)
            go_wp2
            go_ret
            exact ⟨by rw [HF.out]; rfl, below_drewN (below_drewN (Below.refl _ _) _) _⟩
        · have hltz : ¬ (k : Int) < (n1 : Int) := by omega
          obtain rfl : k = n1 := by omega
          have hfin : eqss xs ys = true := by
            rw [eqss_iff]
            apply List.ext_getElem (by omega)
            intro i hi1 hi2
            have := A.out i (by omega)
            rw [List.getD, List.getD, List.getElem?_eq_getElem hi1, List.getElem?_eq_getElem hi2] at this
            simpa using this
          have HF : Hid (eqss xs ys = true) := hfin
          clear hfin
          go_wp2
          go_ret
          exact ⟨by rw [HF.out]; rfl, below_drewN (Below.refl _ _) _⟩
  · have hfin : eqss xs ys = false := by
      rw [← Bool.not_eq_true, eqss_iff]
      intro e; exact hne (by rw [← l1, ← l2, e])
    rw [hfin]
    have d0 : ((n1 : Int) != (n2 : Int)) = true := by rw [bne_iff_ne]; omega
    clear hfin k1 k2
    go_enter Yba.func13, Yba.ntmps13
    go_wp2
    go_ret
    exact ⟨rfl, Below.refl _ _⟩

set_option maxHeartbeats 1000000 in
/-- zzs4091aeq. -/
theorem zeq_any (a1 : Option Addr) (n1 c1 : Nat) (xs : List ByteArray) (a2 : Option Addr) (n2 c2 : Nat) (ys : List ByteArray) (w : World) (h1 : SL w a1 n1 xs) (h2 : SL w a2 n2 ys) :
    Calls Yba.prog 19 #[.slice a1 n1 c1, .slice a2 n2 c2] w fun e w' => e = .returned (.bool (eqss xs ys)) ∧ Below w.heap.size w w' := by
  obtain ⟨l1, m1, k1⟩ := h1
  obtain ⟨l2, m2, k2⟩ := h2
  by_cases hne : n1 = n2
  · subst hne
    have d0 : ((n1 : Int) != (n1 : Int)) = false := by simp
    by_cases hn : n1 = 0
    · subst hn
      have e1 : xs = [] := List.length_eq_zero_iff.1 l1
      have e2 : ys = [] := List.length_eq_zero_iff.1 l2
      have e3 : eqss xs ys = true := by rw [e1, e2]; rfl
      rw [e3]
      clear e1 e2 e3 d0
      go_enter Yba.func19, Yba.ntmps19
      go_wp2
      refine wp_loop_rounds 1 ?_
      rw [rounds_succ]
      go_wp2
      go_ret
      exact ⟨rfl, Below.refl _ _⟩
    · obtain ⟨b1, o1, rfl, hb1, hc1⟩ := k1 (by omega)
      obtain ⟨b2, o2, rfl, hb2, hc2⟩ := k2 (by omega)
      have HC1 : Hid (∀ i, i < n1 → w.cell? ⟨b1, o1 + i, none⟩ = some (.string (xs.getD i ByteArray.empty))) := hc1
      have HC2 : Hid (∀ i, i < n1 → w.cell? ⟨b2, o2 + i, none⟩ = some (.string (ys.getD i ByteArray.empty))) := hc2
      clear hc1 hc2 k1 k2
      go_enter Yba.func19, Yba.ntmps19
      go_wp2
      go_loopw [5] (fun i wr => ∃ k : Nat, k ≤ n1 ∧ i = .int .i64 k ∧ (∃ q, wr = w.drewN q) ∧ Hid (∀ j, j < k → xs.getD j ByteArray.empty = ys.getD j ByteArray.empty)) (fun i _ => n1 - (intOf i).toNat)
      case atStart => exact ⟨0, Nat.zero_le _, rfl, ⟨0, rfl⟩, fun j hj => absurd hj (Nat.not_lt_zero _)⟩
      case round =>
        obtain ⟨k, hk, rfl, ⟨q, rfl⟩, A⟩ := hrel
        by_cases hlt : k < n1
        · have q1 := HC1.out k hlt
          have q2 := HC2.out k hlt
          have hltz : (k : Int) < (n1 : Int) := by omega
          by_cases he : xs.getD k ByteArray.empty = ys.getD k ByteArray.empty
          · have HE : Hid (xs.getD k ByteArray.empty = ys.getD k ByteArray.empty) := he
            rw [← he] at q2
            clear he
            generalize xs.getD k ByteArray.empty = x at q1 q2
            go_wp2
            go_quiet (fail)
            go_wp2
            go_roundw
            case rel => exact ⟨k + 1, by omega, by go_num, ⟨q + nq, rfl⟩, fun j hj => by
                by_cases e : j = k
                · subst e; exact HE.out
                · exact A.out j (by omega)⟩
            case measure => simp [intOf]; omega
          · have HE : Hid (xs.getD k ByteArray.empty ≠ ys.getD k ByteArray.empty) := he
            have hfin : eqss xs ys = false := by
              rw [← Bool.not_eq_true, eqss_iff]
              intro e; exact he (by rw [e])
            have HF : Hid (eqss xs ys = false) := hfin
            clear hfin
            have hb : ((xs.getD k ByteArray.empty).toList == (ys.getD k ByteArray.empty).toList) = false := beq_false.2 he
            clear he
            generalize xs.getD k ByteArray.empty = x at q1 hb
            generalize ys.getD k ByteArray.empty = y at q2 hb
            go_wp2
            go_quiet (fail)
            go_wp2
            go_ret
            exact ⟨by rw [HF.out]; rfl, below_drewN (below_drewN (Below.refl _ _) _) _⟩
        · have hltz : ¬ (k : Int) < (n1 : Int) := by omega
          obtain rfl : k = n1 := by omega
          have hfin : eqss xs ys = true := by
            rw [eqss_iff]
            apply List.ext_getElem (by omega)
            intro i hi1 hi2
            have := A.out i (by omega)
            rw [List.getD, List.getD, List.getElem?_eq_getElem hi1, List.getElem?_eq_getElem hi2] at this
            simpa using this
          have HF : Hid (eqss xs ys = true) := hfin
          clear hfin
          go_wp2
          go_ret
          exact ⟨by rw [HF.out]; rfl, below_drewN (Below.refl _ _) _⟩
  · have hfin : eqss xs ys = false := by
      rw [← Bool.not_eq_true, eqss_iff]
      intro e; exact hne (by rw [← l1, ← l2, e])
    rw [hfin]
    have d0 : ((n1 : Int) != (n2 : Int)) = true := by rw [bne_iff_ne]; omega
    clear hfin k1 k2
    go_enter Yba.func19, Yba.ntmps19
    go_wp2
    go_ret
    exact ⟨rfl, Below.refl _ _⟩
end Go.Proofs.Ybulkcfrw.Walks
