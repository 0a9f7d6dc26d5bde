/- Seat b4091a: the law's own model. -/
import Derived.Test.YbulkcfrwHolds
namespace Go.Proofs.Ybulkcfrw.Walks
open Go.RowKit Plain

/-- zzs4091ahasv -/
theorem zhasv_any (a : Option Addr) (n c : Nat) (ss : List ByteArray) (v : ByteArray) (w : World) (h : SL w a n ss) :
    Calls Yba.prog 14 #[.slice a n c, .string v] w fun e w' => e = .returned (.bool (hasv ss v)) ∧ w = w' := by
  obtain ⟨h1, h2, h3⟩ := h
  by_cases hn : n = 0
  · subst hn
    obtain rfl : ss = [] := List.length_eq_zero_iff.1 h1
    go_enter Yba.func14, Yba.ntmps14
    go_wp2
    refine wp_loop_rounds 1 ?_
    rw [rounds_succ]
    go_wp2
    go_ret
    exact ⟨rfl, rfl⟩
  · obtain ⟨b, off, rfl, hb, hc⟩ := h3 (by omega)
    have HC : Hid (∀ i, i < n → w.cell? ⟨b, off + i, none⟩ = some (.string (ss.getD i ByteArray.empty))) := hc
    clear hc h3
    go_enter Yba.func14, Yba.ntmps14
    go_wp2
    go_loop [5] (fun i => ∃ k : Nat, k ≤ n ∧ i = .int .i64 k ∧ Hid (∀ j, j < k → ss.getD j ByteArray.empty ≠ v)) (fun i => n - (intOf i).toNat)
    case atStart => exact ⟨0, Nat.zero_le _, rfl, fun j hj => absurd hj (Nat.not_lt_zero _)⟩
    case round =>
      obtain ⟨k, hk, rfl, A⟩ := hrel
      by_cases hlt : k < n
      · have q0 := HC.out k hlt
        have hm : ss.getD k ByteArray.empty ∈ ss := by rw [List.getD, List.getElem?_eq_getElem (by omega)]; simp
        have HM : Hid (ss.getD k ByteArray.empty ∈ ss) := hm
        clear hm
        generalize hx : ss.getD k ByteArray.empty = x at q0 HM
        have HX : Hid (ss.getD k ByteArray.empty = x) := hx
        clear hx
        by_cases he : x = v
        · have hq : (x.toList == v.toList) = true := beq_true.2 he
          have HE : Hid (x = v) := he
          clear he
          go_wp2
          go_ret
          refine ⟨?_, rfl⟩
          rw [(hasv_iff ss v).2 (by rw [← HE.out]; exact HM.out)]
          rfl
        · have hq : (x.toList == v.toList) = false := beq_false.2 he
          have HE : Hid (x ≠ v) := he
          clear he
          go_wp2
          go_round
          case rel => exact ⟨k + 1, by omega, by go_num, fun j hj => by
              by_cases e : j = k
              · subst e; rw [HX.out]; exact HE.out
              · exact A.out j (by omega)⟩
          case measure => simp [intOf]; omega
      · go_wp2
        go_ret
        refine ⟨?_, rfl⟩
        have : ¬ hasv ss v = true := by
          rw [hasv_iff]
          intro hm
          obtain ⟨i, hi, e⟩ := List.getElem_of_mem hm
          exact A.out i (by omega) (by rw [List.getD, List.getElem?_eq_getElem hi]; exact e)
        simp at this
        rw [this]; rfl

set_option maxHeartbeats 1000000 in
/-- zzs4091ahass -/
theorem zhass_any (a : Option Addr) (n c : Nat) (V : Nat → Value) (xs : List (List ByteArray)) (s : Value) (ss : List ByteArray) (w : World) (h : SS w a n V xs) (hs : SV w s ss) :
    Calls Yba.prog 15 #[.slice a n c, s] w fun e w' => e = .returned (.bool (hass xs ss)) ∧ Below w.heap.size w w' := by
  obtain ⟨sa, sn, sc, rfl, hs⟩ := hs
  obtain ⟨h1, h2, h3, h4⟩ := h
  by_cases hn : n = 0
  · subst hn
    obtain rfl : xs = [] := List.length_eq_zero_iff.1 h1
    clear h4 hs
    go_enter Yba.func15, Yba.ntmps15
    go_wp2
    refine wp_loop_rounds 1 ?_
    rw [rounds_succ]
    go_wp2
    go_ret
    exact ⟨rfl, Below.refl _ _⟩
  · obtain ⟨b, off, rfl, hb, hc⟩ := h3 (by omega)
    have HC : Hid (∀ i, i < n → w.cell? ⟨b, off + i, none⟩ = some (V i)) := hc
    have H4 : Hid (∀ i, i < n → SV w (V i) (xs.getD i [])) := h4
    clear hc h3 h4
    go_enter Yba.func15, Yba.ntmps15
    go_wp2
    go_loopw [5] (fun i wr => ∃ k : Nat, k ≤ n ∧ i = .int .i64 k ∧ Below w.heap.size w wr ∧ Hid (∀ j, j < k → eqss (xs.getD j []) ss = false)) (fun i _ => n - (intOf i).toNat)
    case atStart => exact ⟨0, Nat.zero_le _, rfl, Below.refl _ _, fun j hj => absurd hj (Nat.not_lt_zero _)⟩
    case round =>
      obtain ⟨k, hk, rfl, hbr, A⟩ := hrel
      by_cases hlt : k < n
      · have q0 := (hbr.cell (p := ⟨b, off + k, none⟩) hb).trans (HC.out k hlt)
        obtain ⟨ka, kn, kc, ev, hk4⟩ := H4.out k hlt
        rw [ev] at q0
        have hltz : (k : Int) < (n : Int) := by omega
        have hcall := zeq_any ka kn kc (xs.getD k []) sa sn sc ss wr (hk4.later hbr) (hs.later hbr)
        have hm : xs.getD k [] ∈ xs := by rw [List.getD, List.getElem?_eq_getElem (by omega)]; simp
        have HM : Hid (xs.getD k [] ∈ xs) := hm
        clear hm ev hk4
        cases hq : eqss (xs.getD k []) ss with
        | true =>
          rw [hq] at hcall
          have HQ : Hid (eqss (xs.getD k []) ss = true) := hq
          clear hq
          go_wp2_with (go_at_call 19; refine hcall.mono ?_; rintro e w' ⟨rfl, hbx⟩)
          go_ret
          refine ⟨?_, hbr.trans (‹Below wr.heap.size wr _›.mono hbr.size)⟩
          rw [(hass_iff xs ss).2 (by rw [← (eqss_iff _ _).1 HQ.out]; exact HM.out)]
          rfl
        | false =>
          rw [hq] at hcall
          have HQ : Hid (eqss (xs.getD k []) ss = false) := hq
          clear hq
          go_wp2_with (go_at_call 19; refine hcall.mono ?_; rintro e w' ⟨rfl, hbx⟩)
          go_roundw
          case rel => exact ⟨k + 1, by omega, by go_num, hbr.trans (‹Below wr.heap.size wr _›.mono hbr.size), fun j hj => by
              by_cases e : j = k
              · subst e; exact HQ.out
              · exact A.out j (by omega)⟩
          case measure => simp [intOf]; omega
      · have hltz : ¬ (k : Int) < (n : Int) := by omega
        go_wp2
        go_ret
        refine ⟨?_, hbr⟩
        have : ¬ hass xs ss = true := by
          rw [hass_iff]
          intro hm
          obtain ⟨i, hi, e⟩ := List.getElem_of_mem hm
          have := A.out i (by omega)
          rw [List.getD, List.getElem?_eq_getElem hi] at this
          simp only [Option.getD_some] at this
          rw [(eqss_iff _ _).2 e] at this
          cases this
        simp at this
        rw [this]; rfl

set_option maxHeartbeats 1000000 in
/-- zzs4091amodel -/
theorem model_any (a1 : Option Addr) (n1 c1 : Nat) (cv : List ByteArray) (a2 : Option Addr) (n2 c2 : Nat) (V2 : Nat → Value) (cs : List (List ByteArray))
    (a3 : Option Addr) (n3 c3 : Nat) (dv : List ByteArray) (a4 : Option Addr) (n4 c4 : Nat) (V4 : Nat → Value) (ds : List (List ByteArray)) (w : World)
    (h1 : SL w a1 n1 cv) (h2 : SS w a2 n2 V2 cs) (h3 : SL w a3 n3 dv) (h4 : SS w a4 n4 V4 ds) :
    Calls Yba.prog 6 #[.slice a1 n1 c1, .slice a2 n2 c2, .slice a3 n3 c3, .slice a4 n4 c4] w fun e w' => e = .returned (.bool (holds cv cs dv ds)) ∧ Below w.heap.size w w' := by
  have m3 : n3 ≤ 9223372036854775807 := h3.2.1
  have m4 : n4 ≤ 9223372036854775807 := h4.2.1
  go_enter Yba.func6, Yba.ntmps6
  go_wp2
  go_loop [9] (fun i => ∃ k : Nat, k ≤ n3 ∧ i = .int .i64 k ∧ Hid (∀ j, j < k → hasv cv (dv.getD j ByteArray.empty) = true)) (fun i => n3 - (intOf i).toNat)
  case atStart => exact ⟨0, Nat.zero_le _, rfl, fun j hj => absurd hj (Nat.not_lt_zero _)⟩
  case round =>
    obtain ⟨k, hk, rfl, A⟩ := hrel
    by_cases hlt : k < n3
    · obtain ⟨b, off, rfl, hb, hc⟩ := h3.2.2 (by omega)
      have q0 := hc k hlt
      have hltz : (k : Int) < (n3 : Int) := by omega
      have hcall := zhasv_any a1 n1 c1 cv (dv.getD k ByteArray.empty) w h1
      have HL : Hid (dv.length = n3) := h3.1
      clear hc h3 h1 h2 h4
      cases hq : hasv cv (dv.getD k ByteArray.empty) with
      | true =>
        rw [hq] at hcall
        have HQ : Hid (hasv cv (dv.getD k ByteArray.empty) = true) := hq
        clear hq
        generalize dv.getD k ByteArray.empty = x at q0 hcall
        go_wp2_with (go_at_call 14; refine hcall.mono ?_; rintro e w' ⟨rfl, rfl⟩)
        go_round
        case rel => exact ⟨k + 1, by omega, by go_num, fun j hj => by
              by_cases e : j = k
              · subst e; exact HQ.out
              · exact A.out j (by omega)⟩
        case measure => simp [intOf]; omega
      | false =>
        rw [hq] at hcall
        have HQ : Hid (hasv cv (dv.getD k ByteArray.empty) = false) := hq
        clear hq
        generalize hx : dv.getD k ByteArray.empty = x at q0 hcall
        have HX : Hid (dv.getD k ByteArray.empty = x) := hx
        clear hx
        go_wp2_with (go_at_call 14; refine hcall.mono ?_; rintro e w' ⟨rfl, rfl⟩)
        go_ret
        refine ⟨?_, Below.refl _ _⟩
        have : holds cv cs dv ds = false := by
          have hm : dv.getD k ByteArray.empty ∈ dv := by have := HL.out; rw [List.getD, List.getElem?_eq_getElem (by omega)]; simp
          have : (dv.all fun v => hasv cv v) = false := by
            rw [List.all_eq_false]
            exact ⟨_, hm, by rw [HQ.out]; simp⟩
          simp [holds, this]
        rw [this]; rfl
    · have hltz : ¬ (k : Int) < (n3 : Int) := by omega
      have HD : Hid ((dv.all fun v => hasv cv v) = true) := by
        have hl := h3.1
        refine List.all_eq_true.2 fun v hv => ?_
        obtain ⟨i, hi, e⟩ := List.getElem_of_mem hv
        have := A.out i (by omega)
        rw [List.getD, List.getElem?_eq_getElem hi] at this
        simpa [e] using this
      clear h3 h1
      go_wp2
      go_loopw [10] (fun i wr => ∃ k : Nat, k ≤ n4 ∧ i = .int .i64 k ∧ Below w.heap.size w wr ∧ Hid (∀ j, j < k → hass cs (ds.getD j []) = true)) (fun i _ => n4 - (intOf i).toNat)
      case atStart => exact ⟨0, Nat.zero_le _, rfl, Below.refl _ _, fun j hj => absurd hj (Nat.not_lt_zero _)⟩
      case round =>
        obtain ⟨k2, hk2, rfl, hbr, A2⟩ := hrel
        by_cases hlt2 : k2 < n4
        · obtain ⟨b, off, rfl, hb, hc⟩ := h4.2.2.1 (by omega)
          have q0 := (hbr.cell (p := ⟨b, off + k2, none⟩) hb).trans (hc k2 hlt2)
          have hltz2 : (k2 : Int) < (n4 : Int) := by omega
          have hcall := zhass_any a2 n2 c2 V2 cs (V4 k2) (ds.getD k2 []) wr (h2.later hbr) ((h4.2.2.2 k2 hlt2).later hbr)
          have HL : Hid (ds.length = n4) := h4.1
          clear hc h4 h2
          generalize V4 k2 = x at q0 hcall
          cases hq : hass cs (ds.getD k2 []) with
          | true =>
            rw [hq] at hcall
            have HQ : Hid (hass cs (ds.getD k2 []) = true) := hq
            clear hq
            go_wp2_with (go_at_call 15; refine hcall.mono ?_; rintro e w' ⟨rfl, hbx⟩)
            go_roundw
            case rel => exact ⟨k2 + 1, by omega, by go_num, hbr.trans (‹Below wr.heap.size wr _›.mono hbr.size), fun j hj => by
                  by_cases e : j = k2
                  · subst e; exact HQ.out
                  · exact A2.out j (by omega)⟩
            case measure => simp [intOf]; omega
          | false =>
            rw [hq] at hcall
            have HQ : Hid (hass cs (ds.getD k2 []) = false) := hq
            clear hq
            go_wp2_with (go_at_call 15; refine hcall.mono ?_; rintro e w' ⟨rfl, hbx⟩)
            go_ret
            refine ⟨?_, hbr.trans (‹Below wr.heap.size wr _›.mono hbr.size)⟩
            have : holds cv cs dv ds = false := by
              have hm : ds.getD k2 [] ∈ ds := by have := HL.out; rw [List.getD, List.getElem?_eq_getElem (by omega)]; simp
              have : (ds.all fun s => hass cs s) = false := by
                rw [List.all_eq_false]
                exact ⟨_, hm, by rw [HQ.out]; simp⟩
              simp [holds, this]
            rw [this]; rfl
        · have hltz2 : ¬ (k2 : Int) < (n4 : Int) := by omega
          have hfin : holds cv cs dv ds = true := by
            have hl := h4.1
            have : (ds.all fun s => hass cs s) = true := by
              refine List.all_eq_true.2 fun v hv => ?_
              obtain ⟨i, hi, e⟩ := List.getElem_of_mem hv
              have := A2.out i (by omega)
              rw [List.getD, List.getElem?_eq_getElem hi] at this
              simpa [e] using this
            simp only [holds, HD.out, this, Bool.and_self]
          have HF : Hid (holds cv cs dv ds = true) := hfin
          clear hfin h4 h2
          go_wp2
          go_ret
          exact ⟨by rw [HF.out]; rfl, hbr⟩
end Go.Proofs.Ybulkcfrw.Walks
