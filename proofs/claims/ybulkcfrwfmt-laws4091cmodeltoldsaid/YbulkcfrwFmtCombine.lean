/- Seat b4091aF: the walk of combine. -/
import Derived.Test.YbulkcfrwFmtCombineKit
import Derived.Test.YbulkcfrwFmtErr
import Derived.Deep.DeepCutAuto
namespace Go.Proofs.YbulkcfrwFmt.Walks
open Go.RowKit Plain Go.Sort Go.Lib

theorem facts31 : (Ybaf.prog.info? 31).map (fun i => (i.zero, i.size, i.bytes)) = some (some (.slice none 0 0), 1, 24) := by kernel_rfl

/-- what combine says -/
def Says (bb : Nat) (w : World) (r : Int × Option (List Nat)) (e : Ending) (w' : World) : Prop :=
  ((∃ v ms us, r.2 = some us ∧ e = .returned (.tuple #[v, .nilIface]) ∧ SV w' v ms ∧ ms.Pairwise (fun a b => mcmp a b < 0) ∧ ∀ x, x ∈ ms ↔ x ∈ us) ∨
   (r.2 = none ∧ ∃ p, e = .returned (.tuple #[.slice none 0 0, .iface 114 (.pointer p)]))) ∧ Bud bb r.1 w w'

/-- one more alternative -/
theorem alts_append {w : World} {avs : List Value} {alts : List (List Nat)} {n : Nat} {v : Value} {s : List Nat} (h1 : avs.length = n) (h2 : alts.length = n) (h : ∀ i, i < n → SV w (avs.getD i undef) (alts.getD i [])) (hv : SV w v s) :
    ∀ i, i < n + 1 → SV w ((avs ++ [v]).getD i undef) ((alts ++ [s]).getD i []) := fun i hi => by
  by_cases e : i < n
  · have := h i e
    simpa [List.getD, List.getElem?_append_left (show i < avs.length by omega), List.getElem?_append_left (show i < alts.length by omega)] using this
  · obtain rfl : i = n := by omega
    simpa [List.getD, List.getElem?_append_right (show avs.length ≤ i by omega), List.getElem?_append_right (show alts.length ≤ i by omega), h1, h2] using hv

theorem new_cell (w : World) (a : Addr) (u v : Value) (T : TypeId) : ((w.setCell a u).alloc (.cells #[v] T)).cell? ⟨w.heap.size, 0, none⟩ = some v := by
  have h := cell_one_new (w.setCell a u) v T 0 v rfl
  have hz : (w.setCell a u).heap.size = w.heap.size := by simp
  rw [hz, Addr.add_lit, Nat.add_zero] at h
  exact h
theorem tail_getD (l : List (List Nat)) (i : Nat) : l.tail.getD i [] = l.getD (i + 1) [] := by cases l <;> simp
theorem headD_getD (l : List (List Nat)) : l.headD [] = l.getD 0 [] := by cases l <;> simp
theorem OR.one {w : World} {base : Nat} {v : Value} {m : Nat} (hb : base ≤ w.heap.size) (h : MS w v m) : OR (w.alloc (.cells #[v] 22)) base (.slice (some ⟨w.heap.size, 0, none⟩) 1 1) 1 [m] := by
  have hbl : Below w.heap.size w (w.alloc (.cells #[v] 22)) := (Below.refl _ _).alloc (Nat.le_refl _) _
  refine ⟨[v], ⟨rfl, .inr ⟨w.heap.size, 1, #[v], rfl, hb, heap_alloc_new w _, Nat.le_refl _, by unfold maxLen; omega, rfl, rfl⟩⟩, rfl, by omega, fun i hi => ?_⟩
  obtain rfl : i = 0 := by omega
  exact h.later hbl

set_option maxHeartbeats 2000000 in
set_option maxRecDepth 100000 in
theorem combine_any (F : Go.Stop.Interp) (w : World) (hF : F.answers w.tape) (a : Option Addr) (n c : Nat) (V : Nat → Value) (req : List (List Nat)) (h : TS w a n V req) (hn : n ≤ 1024) (hreq : ∀ s ∈ req, s.length ≤ 1024)
    (bb : Nat) (b : Int) (hbox : w.heap[bb]? = some (.cells #[.int .i64 b] 3 (0, 0))) (hb1 : -524288 ≤ b) (hb2 : b ≤ 524288) :
    Calls Ybaf.prog 9 #[.slice a n c, .pointer (some ⟨bb, 0, none⟩)] w (Says bb w (run req b)) := by
  by_cases hn0 : n = 0
  · subst hn0
    have e : req = [] := List.length_eq_zero_iff.1 h.1
    subst e
    clear h hreq
    go_enter Ybaf.func9, Ybaf.ntmps9
    go_wp2
    go_ret2
    exact ⟨.inl ⟨_, [], [], rfl, rfl, ⟨none, 0, 0, fun _ => undef, rfl, ⟨rfl, by omega, fun h => absurd h (by omega), fun i hi => absurd hi (by omega)⟩, fun _ => ⟨rfl, rfl⟩, fun ad h => by cases h⟩, List.Pairwise.nil, fun x => Iff.rfl⟩, Bud.start hbox⟩
  · obtain ⟨hl, -, h3, h4⟩ := h
    obtain ⟨b0, o0, rfl, ht0, hc0⟩ := h3 (by omega)
    have HC : Hid (∀ i, i < n → w.cell? ⟨b0, o0 + i, none⟩ = some (V i) ∧ SV w (V i) (req.getD i [])) := fun i hi => ⟨hc0 i hi, h4 i hi⟩
    have HL : Hid (req.length = n) := hl
    have HR : Hid (∀ s ∈ req, s.length ≤ 1024) := hreq
    have HB : Hid (w.heap[bb]? = some (.cells #[.int .i64 b] 3 (0, 0))) := hbox
    have hb0 : b0 < w.heap.size := ht0.lt
    have hnz : ((n : Int) == 0) = false := by simp; omega
    have hne : req ≠ [] := fun e => hn0 (by rw [← hl, e]; rfl)
    obtain ⟨i9, hi9, hz9, hs9, hy9⟩ := info_parts facts9
    obtain ⟨i31, hi31, hz31, hs31, hy31⟩ := info_parts facts31
    clear h3 h4 hc0 hl hreq hbox ht0
    go_enter Ybaf.func9, Ybaf.ntmps9
    go_wp2
    go_loopw [6, 7, 9, 24] (fun s6 s7 _ s24 wr => ∃ (k nj na : Nat) (xs : List Nat) (avs : List Value), k ≤ n ∧ s24 = .int .i64 k ∧ nj ≤ 8 * k ∧ na ≤ k ∧ wr.ownsRow w.heap.size 9 1 s6 nj (xs.map cell) ∧ wr.ownsRow w.heap.size 31 1 s7 na avs ∧
        Hid ((∀ i, i ∈ xs ↔ i ∈ plc (joinedOf (req.take k))) ∧ joinedOf (req.take k) < 256 ∧ (altsOf (req.take k)).length = na ∧ ∀ i, i < na → SV w (avs.getD i undef) ((altsOf (req.take k)).getD i [])) ∧ Below w.heap.size w wr) (fun _ _ _ s24 _ => n - (intOf s24).toNat)
    case atStart => exact ⟨0, 0, 0, [], [], Nat.zero_le _, rfl, Nat.le_refl _, Nat.le_refl _, World.ownsRow_nil _ _ _ _, World.ownsRow_nil _ _ _ _, ⟨fun i => by rw [List.take_zero]; simp [joinedOf, plc_zero], by rw [List.take_zero]; decide, rfl, fun i hi => absurd hi (by omega)⟩, Below.refl _ _⟩
    case round =>
      obtain ⟨k, nj, na, xs, avs, hk, rfl, hnj, hna, ho6, ho7, HF, hbr⟩ := hrel
      have hnl : xs.length = nj := by have := ho6.1; simpa using this
      have hal : avs.length = na := by have := ho7.1; simpa using this
      by_cases hlt : k < n
      · have hltz : (k : Int) < (n : Int) := by omega
        obtain ⟨q0, hsv⟩ := HC.out k hlt
        have q0 := (hbr.cell (p := ⟨b0, o0 + k, none⟩) hb0).trans q0
        obtain ⟨sa, sn, sc, SVV, eV, hSS, hNS⟩ := hsv
        rw [eV] at q0
        clear eV
        have hts := take_snoc req k (by have := HL.out; omega)
        by_cases h1 : sn = 1
        · subst h1
          obtain ⟨l1, l2, l3, l4⟩ := hSS
          obtain ⟨sb, so, rfl, hst, hsc⟩ := l3 (by decide)
          have q1 := (hbr.cell (p := ⟨sb, so + 0, none⟩) hst.lt).trans (hsc 0 (by decide))
          obtain ⟨ea, en, ec, eE, hsl, hnice, hm⟩ := (l4 0 (by decide)).later hbr
          rw [eE, Nat.add_zero] at q1
          have hen : en ≤ 8 := by rw [← hsl.1]; exact plc_le _
          have HSL : Hid (SL wr ea en (plc ((req.getD k []).getD 0 0))) := hsl
          have hj : joinedOf (req.take (k + 1)) = joinedOf (req.take k) ||| (req.getD k []).getD 0 0 := by
            rw [hts, joinedOf_snoc, if_pos l1]
            congr 1
            cases req.getD k [] <;> rfl
          have ha : altsOf (req.take (k + 1)) = altsOf (req.take k) := by rw [hts, altsOf_snoc, if_pos l1, List.append_nil]
          have HJ : Hid (joinedOf (req.take (k + 1)) = joinedOf (req.take k) ||| (req.getD k []).getD 0 0 ∧ altsOf (req.take (k + 1)) = altsOf (req.take k)) := ⟨hj, ha⟩
          clear hj ha hts l1 l2 l3 l4 hsc hst eE hsl
          generalize (req.getD k []).getD 0 0 = m at *
          go_wp2_with (first
            | (at_builtin; refine wpList_append_own_nice rfl (.tmp 31) (.tmp 34) 22 rfl w.heap.size 9 i9 (.string ByteArray.empty) 16 Ybaf.underlying22 hi9 hz9 hs9 hy9 rfl _ _ _ rfl ho6 ea en ec hnice ((plc m).map cell) rfl (by rw [List.length_map]; exact HSL.out.1) (cells_SL HSL.out) (one_cells _) (by unfold maxLen; omega) (by omega) hbr.size ?_; intro v' w1 ho' hgrow)
            | go_in)
          have R1 : w1.ownsRow w.heap.size 9 1 v' (nj + en) ((xs ++ plc m).map cell) := by rw [List.map_append]; exact ho'
          have R2 := owns_kt ho7 (KT.grown (S := [31]) ho6 hgrow (by decide)) (by decide)
          have R3 := appended0 ho6 hbr hbr.size hgrow
          clear ho' ho6 ho7 hbr hgrow q0 q1
          go_roundw
          case rel =>
            refine ⟨k + 1, nj + en, na, xs ++ plc m, avs, by omega, by go_num, by omega, by omega, R1, R2, ⟨fun i => ?_, ?_, ?_, ?_⟩, R3⟩
            · rw [HJ.out.1, mem_plc_or, List.mem_append, HF.out.1 i]
            · rw [HJ.out.1]; exact or_lt HF.out.2.1 hm
            · rw [HJ.out.2]; exact HF.out.2.2.1
            · rw [HJ.out.2]; exact HF.out.2.2.2
          case measure => simp [intOf]; omega
        · have h1z : ((sn : Int) == 1) = false := by simp; omega
          have hsl : (req.getD k []).length = sn := hSS.1
          have HSV : Hid (SV w (.slice sa sn sc) (req.getD k [])) := ⟨sa, sn, sc, SVV, rfl, hSS, hNS⟩
          have HJ : Hid (joinedOf (req.take (k + 1)) = joinedOf (req.take k) ∧ altsOf (req.take (k + 1)) = altsOf (req.take k) ++ [req.getD k []]) := ⟨by rw [hts, joinedOf_snoc, if_neg (by omega)], by rw [hts, altsOf_snoc, if_neg (by omega)]⟩
          clear hts hSS hsl hNS
          go_wp2_with (first
            | (at_builtin; refine wpList_append_own _ rfl (.tmp 36) (.tmp 38) 30 rfl w.heap.size 31 i31 (.slice none 0 0) 1 24 Ybaf.underlying30 hi31 hz31 hs31 hy31 rfl (by decide) _ _ _ rfl (ho7.alloc _) ⟨wr.heap.size, 0, none⟩ 1 1 [.slice sa sn sc] rfl rfl (cell_one_new _ _ _) (by intro u hu; simp at hu; subst hu; rfl) (by unfold maxLen; omega) (by omega) (by have := hbr.size; simp; omega) ?_; intro v' w1 ho' hgrow _)
            | go_in)
          have R1 := owns_kt (ho6.alloc _) (KT.grown (S := [9]) (ho7.alloc _) hgrow (by decide)) (by decide)
          have R3 := appended ho7 hbr hbr.size hgrow
          clear ho6 ho7 hbr hgrow q0
          go_roundw
          case rel =>
            refine ⟨k + 1, nj, na + 1, xs, avs ++ [.slice sa sn sc], by omega, by go_num, by omega, by omega, R1, ho', ⟨fun i => ?_, ?_, ?_, ?_⟩, R3⟩
            · rw [HJ.out.1]; exact HF.out.1 i
            · rw [HJ.out.1]; exact HF.out.2.1
            · rw [HJ.out.2]; simp [HF.out.2.2.1]
            · rw [HJ.out.2]; exact alts_append hal HF.out.2.2.1 HF.out.2.2.2 HSV.out
          case measure => simp [intOf]; omega
      · have hltz : ¬ (k : Int) < (n : Int) := by omega
        obtain rfl : k = n := by omega
        have htk : req.take k = req := List.take_of_length_le (by have := HL.out; omega)
        rw [htk] at HF
        obtain ⟨a6, c6, rfl, -⟩ := owns_row ho6
        obtain ⟨a7, c7, rfl, -, h7, hN7⟩ := owns_row ho7
        have HO7 : Hid (wr.ownsRow w.heap.size 31 1 (.slice a7 na c7) na avs) := ho7
        have S1 := sort_row (ss := xs.map lett) (by rw [List.map_map]; exact ho6) (by omega)
        clear ho6 ho7 htk h7
        go_upto_region 14 with (first
          | (go_at_call 15; refine S1.mono ?_; rintro e wS ⟨rfl, hoS, hbS, ktS⟩)
          | (go_at_call 16; refine (compact_row hoS (by omega) HF.out.2.1 HF.out.1).mono ?_; rintro e wC ⟨v', rfl, ⟨am, nm, cm, rfl, hslm, hnm, hJ⟩, hbC, ktC⟩)
          | go_in)
        have hBC : Below w.heap.size w wC := (hbr.trans hbS).trans hbC
        have hMS : MS wC (.slice am nm cm) (joinedOf req) := ⟨am, nm, cm, rfl, hslm, hnm, hJ⟩
        have hOC := owns_kt HO7.out (ktS.trans ktC) (by decide)
        clear S1 hoS hbS ktS hbC ktC hslm hnm
        have hBD : Below w.heap.size w (wC.alloc (.cells #[.slice am nm cm] 22)) := hBC.alloc hBC.size _
        have hOD := hOC.alloc (.cells #[.slice am nm cm] 22)
        have hUD := OR.one hBC.size hMS
        have hsD : wC.heap.size < (wC.alloc (.cells #[.slice am nm cm] 22)).heap.size := by simp
        have hsD' := hBC.size
        clear hOC hMS hBC HO7
        go_cut [53] (fun c53 wx => c53 = .bool (decide (nj = 0 ∧ 0 < na)) ∧ wx = wC.alloc (.cells #[.slice am nm cm] 22))
        case first =>
          by_cases e0 : nj = 0
          · have e0z : ((nj : Int) == 0) = true := by simp [e0]
            by_cases e1 : 0 < na
            · have e1z : decide ((0 : Int) < (na : Int)) = true := by simp; omega
              go_wp2
              go_meet
              exact ⟨by simp [e0, e1], rfl⟩
            · have e1z : decide ((0 : Int) < (na : Int)) = false := by simp; omega
              go_wp2
              go_meet
              exact ⟨by simp [e0, e1], rfl⟩
          · have e0z : ((nj : Int) == 0) = false := by simp; omega
            go_wp2
            go_meet
            exact ⟨by simp [e0], rfl⟩
        case rest =>
          obtain ⟨rfl, rfl⟩ := hcut
          generalize wC.alloc (.cells #[.slice am nm cm] 22) = wD at *
          go_upto_if 53 with fail
          go_cut [7, 10] (fun v7 v10 wx => ∃ a7 n7 c7 W7 alts un us, v7 = .slice a7 n7 c7 ∧ TS wx a7 n7 W7 alts ∧ OR wx w.heap.size v10 un us ∧ un ≤ 1024 ∧ Hid (run req b = stages b us alts ∧ ∀ s ∈ alts, s.length ≤ 1024) ∧ Below w.heap.size w wx)
          case first =>
            have hxz : xs = [] ↔ joinedOf req = 0 := by
              constructor
              · intro e
                subst e
                refine plc_nil HF.out.2.1 ?_
                rw [List.eq_nil_iff_forall_not_mem]
                intro i hi
                have := (HF.out.1 i).2 hi
                simp at this
              · intro e
                rw [List.eq_nil_iff_forall_not_mem]
                intro i hi
                have := (HF.out.1 i).1 hi
                rw [e, plc_zero] at this
                simp at this
            have HA : Hid (∀ i, i < na → SV wD (avs.getD i undef) ((altsOf req).getD i [])) := fun i hi => (HF.out.2.2.2 i hi).later hBD
            by_cases hif : nj = 0 ∧ 0 < na
            · simp only [decide_eq_true hif]
              obtain ⟨hj0, hna0⟩ := hif
              have hr : run req b = stages b ((altsOf req).headD []) (altsOf req).tail := by
                unfold run
                rw [if_neg hne, if_pos]
                refine ⟨hxz.1 (List.length_eq_zero_iff.1 (by omega)), fun e => ?_⟩
                have := HF.out.2.2.1
                rw [e] at this
                simp at this
                omega
              have HRun : Hid (run req b = stages b ((altsOf req).headD []) (altsOf req).tail) := hr
              obtain ⟨a', c', e1, e2, e3, e4⟩ := owns_row hOD
              cases e1
              obtain ⟨g, o7, rfl, hT7, hC7⟩ := e3 hna0
              obtain ⟨sa, sn, sc, SVV, eV, hSS, hNS⟩ := HA.out 0 hna0
              have q0 := hC7 0 hna0
              rw [eV, Nat.add_zero] at q0
              have hcap : na ≤ c7 := by
                rcases hOD.2 with ⟨h0, _⟩ | ⟨g', cap', cur', e', _, _, hc', _⟩
                · cases h0
                · cases e'; exact hc'
              have hnaz : (1 : Int) ≤ (na : Int) := by omega
              have hcaz : (1 : Int) ≤ (c7 : Int) := by omega
              have C : ∀ W, Below wD.heap.size wD W → Calls Ybaf.prog 17 #[.slice sa sn sc] W fun e w' => ∃ v vs, e = .returned v ∧ w'.ownsRow W.heap.size 22 1 v sn vs ∧ (∀ i, i < sn → MS w' (vs.getD i undef) (((altsOf req).getD 0 []).getD i 0)) ∧ Below W.heap.size W w' := fun W hW =>
                clone17_any W sa sn sc SVV _ (hSS.later hW) hNS
              have HC7 : Hid (∀ i, i < na → wD.cell? ⟨g, o7 + i, none⟩ = some (avs.getD i undef)) := hC7
              clear hj0
              have HS1 : Hid (((altsOf req).getD 0 []).length = sn ∧ sn ≤ 1048576) := ⟨hSS.1, hSS.2.1⟩
              clear hr hOD hUD hxz e3 e4 hC7 hSS
              by_cases hc1 : c7 = 1
              · subst hc1
                obtain rfl : na = 1 := by omega
                go_wp2_with fail
                go_region_with (go_at_call 17; refine (C _ ?_).mono ?_; exact (Below.refl _ _).drew; rintro e wE ⟨v, vs, rfl, hv, hm, hb⟩)
                go_wp2
                go_meet
                have hgl : g < wD.drew.heap.size := hT7.lt
                have hbD : Below wD.heap.size wD wE := ((Below.refl _ _).drew).trans hb
                exact ⟨_, _, _, fun i => avs.getD (i + 1) undef, (altsOf req).tail, sn, (altsOf req).getD 0 [], rfl,
                  ⟨by simp [HF.out.2.2.1], by omega, fun hp => ⟨g, o7 + 1, by first | rfl | omega, hT7.kt (S := [31]) (.below hbD) (by decide), fun i hi => (hb.cell (p := ⟨g, o7 + 1 + i, none⟩) hgl).trans (by have := HC7.out (i + 1) (by omega); rw [show o7 + (i + 1) = o7 + 1 + i by omega] at this; exact this)⟩,
                    fun i hi => by have := (HA.out (i + 1) (by omega)).later hbD; rw [tail_getD]; exact this⟩,
                  ⟨vs, owns_mono hv (by have := hBD.size; simpa using this), HS1.out.1, HS1.out.2, hm⟩, by rw [← HS1.out.1]; exact HR.out _ (alts_mem (by rw [List.getD, List.getElem?_eq_getElem (by rw [HF.out.2.2.1]; omega)]; simp)),
                  ⟨by rw [HRun.out, headD_getD], fun s hs => HR.out s (alts_mem (List.mem_of_mem_tail hs))⟩, hBD.trans (hbD.mono (by exact hBD.size))⟩
              · have hc1z : ¬ (c7 : Int) = 1 := by omega
                go_wp2_with fail
                go_region_with (go_at_call 17; refine (C _ ?_).mono ?_; exact (Below.refl _ _).drew; rintro e wE ⟨v, vs, rfl, hv, hm, hb⟩)
                go_wp2
                go_meet
                have hgl : g < wD.drew.heap.size := hT7.lt
                have hbD : Below wD.heap.size wD wE := ((Below.refl _ _).drew).trans hb
                exact ⟨_, _, _, fun i => avs.getD (i + 1) undef, (altsOf req).tail, sn, (altsOf req).getD 0 [], rfl,
                  ⟨by simp [HF.out.2.2.1], by omega, fun hp => ⟨g, o7 + 1, by first | rfl | omega, hT7.kt (S := [31]) (.below hbD) (by decide), fun i hi => (hb.cell (p := ⟨g, o7 + 1 + i, none⟩) hgl).trans (by have := HC7.out (i + 1) (by omega); rw [show o7 + (i + 1) = o7 + 1 + i by omega] at this; exact this)⟩,
                    fun i hi => by have := (HA.out (i + 1) (by omega)).later hbD; rw [tail_getD]; exact this⟩,
                  ⟨vs, owns_mono hv (by have := hBD.size; simpa using this), HS1.out.1, HS1.out.2, hm⟩, by rw [← HS1.out.1]; exact HR.out _ (alts_mem (by rw [List.getD, List.getElem?_eq_getElem (by rw [HF.out.2.2.1]; omega)]; simp)),
                  ⟨by rw [HRun.out, headD_getD], fun s hs => HR.out s (alts_mem (List.mem_of_mem_tail hs))⟩, hBD.trans (hbD.mono (by exact hBD.size))⟩
            · simp only [decide_eq_false hif]
              have hrun : run req b = stages b [joinedOf req] (altsOf req) := by
                unfold run
                rw [if_neg hne, if_neg]
                rintro ⟨r1, r2⟩
                refine hif ⟨by rw [← hnl, hxz.2 r1]; rfl, ?_⟩
                rw [← HF.out.2.2.1]
                exact List.length_pos_iff.2 r2
              have HRun : Hid (run req b = stages b [joinedOf req] (altsOf req)) := hrun
              have HOD : Hid (wD.ownsRow w.heap.size 31 1 (.slice a7 na c7) na avs) := hOD
              have HUD : Hid (OR wD w.heap.size (.slice (some ⟨wC.heap.size, 0, none⟩) 1 1) 1 [joinedOf req]) := hUD
              clear hrun hOD hUD hxz
              go_wp2
              go_meet
              obtain ⟨a', c', e1, e2, e3, e4⟩ := owns_row HOD.out
              cases e1
              exact ⟨a7, na, c7, fun i => avs.getD i undef, altsOf req, 1, [joinedOf req], rfl, ⟨HF.out.2.2.1, by omega, e3, HA.out⟩, HUD.out, by omega, ⟨HRun.out, fun s hs => HR.out s (alts_mem hs)⟩, hBD⟩
          case rest =>
            rename World => wA
            obtain ⟨a7', n7, c7', W7, alts, un0, us0, rfl, hTS, hOR, hun, HH, hbA⟩ := hcut
            have hTyw : Typ w bb 3 := ⟨_, _, HB.out⟩
            have hbw : bb < w.heap.size := hTyw.lt
            have hBud : Bud bb b w wA := (Bud.start HB.out).below hbA (Nat.le_refl _) hbw
            have hTyA : Typ wA bb 3 := hBud.typ
            have HTA : Hid (TS wA a7' n7 W7 alts) := hTS
            obtain ⟨i22, hi22, hz22, hs22, hy22⟩ := info_parts facts22
            clear hTS HC hBD hOD hUD hbr HF hsD hsD' HL
            go_wp2
            go_loopw [10, 62] (fun s10 s62 wr => ∃ (k un : Nat) (rem : Int) (us : List Nat), k ≤ n7 ∧ s62 = .int .i64 k ∧ OR wr w.heap.size s10 un us ∧ un ≤ 1048576 ∧ -524288 ≤ rem ∧ rem ≤ 524288 ∧ Hid (run req b = stages rem us (alts.drop k)) ∧ Bud bb rem wA wr) (fun _ s62 _ => n7 - (intOf s62).toNat)
            case atStart => exact ⟨0, un0, b, us0, Nat.zero_le _, rfl, hOR, by omega, hb1, hb2, by rw [List.drop_zero]; exact HH.out.1, Bud.start hBud.box⟩
            case round =>
              rename World => w2
              obtain ⟨k, un, rem, us, hk, rfl, hO2, hun2, hr1, hr2, HS2, hBud2⟩ := hrel
              have hTy2 : Typ w2 bb 3 := hBud2.typ
              by_cases hlt : k < n7
              · have hltz : (k : Int) < (n7 : Int) := by omega
                obtain ⟨lT, _, cT, sT⟩ := HTA.out.kt (hBud2.kt hTyA [9, 22, 31] (by decide)) (by decide) (by decide) (by decide)
                obtain ⟨b7, o7, rfl, hT7, hC7⟩ := cT (by omega)
                have q0 := hC7 k hlt
                obtain ⟨sa, sn, sc, SVV, eV, hSS, hNS⟩ := sT k hlt
                rw [eV] at q0
                have hss : alts.getD k [] ∈ alts := by rw [List.getD, List.getElem?_eq_getElem (by omega)]; simp
                have hsn : sn ≤ 1024 := by rw [← hSS.1]; exact HH.out.2 _ hss
                have HST : Hid (run req b = if (feed rem (prod us (alts.getD k []))).2 then stages (feed rem (prod us (alts.getD k []))).1 (prod us (alts.getD k [])) (alts.drop (k + 1)) else ((feed rem (prod us (alts.getD k []))).1, none)) := HS2.out.trans (stages_step rem us alts k (by omega))
                generalize alts.getD k [] = ss at *
                obtain ⟨ua, uc, UV, rfl, hUS, -⟩ := hO2.ss
                have HUS : Hid (SS w2 ua un UV us) := hUS
                have HSS : Hid (SS w2 sa sn SVV ss) := hSS
                clear hUS hSS cT sT hC7 eV hss hO2 hNS
                go_wp2
                go_loopw [13, 68] (fun s13 s68 wr => ∃ (k3 cnt : Nat) (rem3 : Int) (ns : List Nat), k3 ≤ un ∧ s68 = .int .i64 k3 ∧ OR wr w2.heap.size s13 cnt ns ∧ -524288 ≤ rem3 ∧ (cnt : Int) + rem3 ≤ rem ∧ (0 < cnt → 0 ≤ rem3) ∧ Hid (ns ++ prod (us.drop k3) ss = prod us ss ∧ feed rem (prod us ss) = feed rem3 (prod (us.drop k3) ss)) ∧ Bud bb rem3 w2 wr) (fun _ s68 _ => un - (intOf s68).toNat)
                case atStart => exact ⟨0, 0, rem, [], Nat.zero_le _, rfl, OR.nil _ _, hr1, by omega, fun h => absurd h (by omega), ⟨by simp, by simp⟩, Bud.start hBud2.box⟩
                case round =>
                  rename World => w3
                  obtain ⟨k3, cnt, rem3, ns, hk3, rfl, hO3, hm1, hm2, hm3, HS3, hBud3⟩ := hrel
                  by_cases hlt3 : k3 < un
                  · have hlt3z : (k3 : Int) < (un : Int) := by omega
                    obtain ⟨lU, _, cU, sU⟩ := HUS.out.kt (hBud3.kt hTy2 [9, 22, 31] (by decide)) (by decide) (by decide)
                    obtain ⟨ub, uo, rfl, hTu, hCu⟩ := cU (by omega)
                    have q3 := hCu k3 hlt3
                    obtain ⟨xa, xn, xc, eX, -⟩ := sU k3 hlt3
                    have hxm : MS w2 (.slice xa xn xc) (us.getD k3 0) := by rw [← eX]; exact HUS.out.2.2.2 k3 hlt3
                    rw [eX] at q3
                    have HXM : Hid (MS w2 (.slice xa xn xc) (us.getD k3 0)) := hxm
                    have HP : Hid (prod (us.drop k3) ss = ss.map (us.getD k3 0 ||| ·) ++ prod (us.drop (k3 + 1)) ss) := prod_step us ss k3 (by omega)
                    generalize us.getD k3 0 = u at *
                    clear cU sU hCu eX hxm
                    go_wp2
                    go_loopw [13, 74] (fun s13 s74 wr => ∃ (k4 cnt : Nat) (rem4 : Int) (ns : List Nat), k4 ≤ sn ∧ s74 = .int .i64 k4 ∧ OR wr w2.heap.size s13 cnt ns ∧ -524288 ≤ rem4 ∧ (cnt : Int) + rem4 ≤ rem ∧ (0 < cnt → 0 ≤ rem4) ∧ Hid (ns ++ ((ss.drop k4).map (u ||| ·) ++ prod (us.drop (k3 + 1)) ss) = prod us ss ∧ feed rem (prod us ss) = feed rem4 ((ss.drop k4).map (u ||| ·) ++ prod (us.drop (k3 + 1)) ss)) ∧ Bud bb rem4 w2 wr) (fun _ s74 _ => sn - (intOf s74).toNat)
                    case atStart => exact ⟨0, cnt, rem3, ns, Nat.zero_le _, rfl, hO3, hm1, hm2, hm3, by rw [List.drop_zero, ← HP.out]; exact HS3.out, hBud3⟩
                    case round =>
                      rename World => w4
                      clear hO3 hBud3 hm1 hm2 hm3 HS3
                      obtain ⟨k4, cnt, rem4, ns, hk4, rfl, hO4, hm1, hm2, hm3, HS4, hBud4⟩ := hrel
                      have hw42 := hBud4.size
                      have hbw2 : bb < w2.heap.size := hTy2.lt
                      by_cases hlt4 : k4 < sn
                      · have hlt4z : (k4 : Int) < (sn : Int) := by omega
                        have k24 := hBud4.kt hTy2 [9, 22, 31] (by decide)
                        obtain ⟨lS, _, cS, sS⟩ := HSS.out.kt k24 (by decide) (by decide)
                        obtain ⟨sb, so, rfl, hTs, hCs⟩ := cS (by omega)
                        have q4 := hCs k4 hlt4
                        obtain ⟨ya, yn, yc, eY, hsy, hny, hy⟩ := sS k4 hlt4
                        rw [eY] at q4
                        obtain ⟨xa', xn', xc', eX, hsx, hnx, hx⟩ := HXM.out.kt k24 (by decide)
                        cases eX
                        have hxl : xn ≤ 8 := by rw [← hsx.1]; exact plc_le _
                        have hyl : yn ≤ 8 := by rw [← hsy.1]; exact plc_le _
                        have HM : Hid ((ss.drop k4).map (u ||| ·) = (u ||| ss.getD k4 0) :: (ss.drop (k4 + 1)).map (u ||| ·)) := map_step u ss k4 (by omega)
                        generalize ss.getD k4 0 = s at *
                        have hus : u ||| s < 256 := or_lt hx hy
                        obtain ⟨P, hP⟩ : ∃ P, pop (u ||| s) = P := ⟨_, rfl⟩
                        have hP8 : P ≤ 8 := by rw [← hP]; exact pop_le _
                        have HPP : Hid (pop (u ||| s) = P) := hP
                        have HSY : Hid (SL w4 ya yn (plc s)) := hsy
                        have HO4 : Hid (OR w4 w2.heap.size u13 cnt ns) := hO4
                        have C18 := clone18_any w4 xa xn xc u hsx hnx
                        have hwr : IntKind.i64.wrap (rem4 - ((P : Int) + 1)) = rem4 - ((P : Int) + 1) := by simp [IntKind.wrap, IntKind.bits, IntKind.signed]; omega
                        have HNS : Hid (ns.length = cnt) := hO4.choose_spec.2.1
                        clear hCs cS sS eY hsx hsy hP hO4 k24
                        by_cases hneg : rem4 - ((P : Int) + 1) < 0
                        · go_wp2_with (first
                            | (go_at_call 18; refine C18.mono ?_; rintro e wa ⟨va, rfl, hoa, hba⟩)
                            | (at_builtin; refine wpList_append_own_nice rfl (.tmp 79) (.tmp 80) 22 rfl w4.heap.size 9 i9 (.string ByteArray.empty) 16 Ybaf.underlying22 hi9 hz9 hs9 hy9 rfl _ _ _ rfl hoa ya yn yc hny ((plc s).map cell) rfl (by rw [List.length_map]; exact HSY.out.1) (cells_SL (HSY.out.later hba)) (one_cells _) (by unfold maxLen; omega) (by omega) hba.size ?_; intro vb wb hob hgb)
                            | (go_at_call 15; refine (sort_row (ss := (plc u ++ plc s).map lett) (by rw [List.map_map, List.map_append]; exact hob) (by omega)).mono ?_; rintro e wc ⟨rfl, hoc, hbc, ktc⟩)
                            | (go_at_call 16; refine (compact_row hoc (by omega) hus (fun i => by rw [mem_plc_or, List.mem_append])).mono ?_; rintro e wd ⟨vd, rfl, ⟨ad, nd, cd, rfl, hsd, hnd, hd⟩, hbd, ktd⟩; have ed : nd = P := hsd.1.symm.trans HPP.out; subst ed; have hB4 := ((appended0 hoa hba hba.size hgb).trans hbc).trans hbd; have hBu := hBud4.below hB4 hw42 (Nat.lt_of_lt_of_le hbw2 hw42); have hcl := hBu.cell; have hfz := hBu.frozen)
                            | (go_at_call 19; refine (Err.errorf_any F _ _ ?_ ?_).mono ?_; exact (by have ht := ((hBud.trans hBud2).trans hBu).tape; show F.answers wd.tape; rw [ht]; exact hF); exact new_cell _ _ _ _ _; rintro e we ⟨p, rfl, hbe⟩)
                            | go_in)
                          go_ret2
                          have hrun : run req b = (rem4 - ((nd : Int) + 1), none) := by
                            have e1 := HS4.out.2
                            rw [HM.out, List.cons_append, feed, HPP.out, if_pos (by omega)] at e1
                            rw [HST.out, e1]
                            rfl
                          rw [hrun]
                          refine ⟨.inr ⟨rfl, p, rfl⟩, ?_⟩
                          have r1 := ((hBud.trans hBud2).trans hBu).store (rem4 - ((nd : Int) + 1))
                          have r2 : bb < (wd.setCell ⟨bb, 0, none⟩ (.int .i64 (rem4 - ((nd : Int) + 1)))).heap.size := r1.typ.lt
                          exact (r1.below ((Below.refl _ _).alloc (Nat.le_refl _) _) r1.size r2).below hbe (Nat.le_trans r1.size (by simp)) (Nat.lt_of_lt_of_le r2 (by simp))
                        · go_wp2_with (first
                            | (go_at_call 18; refine C18.mono ?_; rintro e wa ⟨va, rfl, hoa, hba⟩)
                            | (at_builtin; refine wpList_append_own_nice rfl (.tmp 79) (.tmp 80) 22 rfl w4.heap.size 9 i9 (.string ByteArray.empty) 16 Ybaf.underlying22 hi9 hz9 hs9 hy9 rfl _ _ _ rfl hoa ya yn yc hny ((plc s).map cell) rfl (by rw [List.length_map]; exact HSY.out.1) (cells_SL (HSY.out.later hba)) (one_cells _) (by unfold maxLen; omega) (by omega) hba.size ?_; intro vb wb hob hgb)
                            | (go_at_call 15; refine (sort_row (ss := (plc u ++ plc s).map lett) (by rw [List.map_map, List.map_append]; exact hob) (by omega)).mono ?_; rintro e wc ⟨rfl, hoc, hbc, ktc⟩)
                            | (go_at_call 16; refine (compact_row hoc (by omega) hus (fun i => by rw [mem_plc_or, List.mem_append])).mono ?_; rintro e wd ⟨vd, rfl, ⟨ad, nd, cd, rfl, hsd, hnd, hd⟩, hbd, ktd⟩; have ed : nd = P := hsd.1.symm.trans HPP.out; subst ed; have hB4 := ((appended0 hoa hba hba.size hgb).trans hbc).trans hbd; have hBu := hBud4.below hB4 hw42 (Nat.lt_of_lt_of_le hbw2 hw42); have hcl := hBu.cell; have hfz := hBu.frozen; have ktw := (KT.below (S := [9, 22]) hB4).trans (kt_store hBu.typ [9, 22] (by decide) (.int .i64 (rem4 - ((nd : Int) + 1)))); obtain ⟨vs, hov, hvl, hvn, hvm⟩ := HO4.out; have hoX := owns_kt hov ktw (by decide))
                            | (at_builtin; refine wpList_append_own _ rfl (.tmp 101) (.tmp 103) 31 rfl w2.heap.size 22 i22 (.slice none 0 0) 1 24 Ybaf.underlying31 hi22 hz22 hs22 hy22 rfl (by decide) _ _ _ rfl (hoX.alloc _) ⟨wd.heap.size, 0, none⟩ 1 1 [.slice ad nd cd] rfl rfl (by simpa using cell_one_new (wd.setCell ⟨bb, 0, none⟩ (.int .i64 (rem4 - ((nd : Int) + 1)))) (.slice ad nd cd) 22) (by intro u hu; simp at hu; subst hu; rfl) (by unfold maxLen; omega) (by omega) (by have := hB4.size; simp; omega) ?_; intro v' w8 ho8 hg8 _)
                            | go_in)
                          have hst8 : KT [9] (wd.setCell ⟨bb, 0, none⟩ (.int .i64 (rem4 - ((nd : Int) + 1)))) w8 := (KT.below ((Below.refl _ _).alloc (Nat.le_refl _) _)).trans (KT.grown (hoX.alloc _) hg8 (by decide))
                          have R3 := appended hoX (Below.refl _ _) (by have := hB4.size; simp; omega) hg8
                          have RB := (hBu.store (rem4 - ((nd : Int) + 1))).below R3 (Nat.le_refl _) hbw2
                          have hvl2 : vs.length = cnt := by have := hov.1; simpa using this
                          have RO : OR w8 w2.heap.size v' (cnt + 1) (ns ++ [u ||| s]) := by
                            refine ⟨vs ++ [.slice ad nd cd], ho8, by simp [hvl], by omega, fun i hi => ?_⟩
                            by_cases e : i < cnt
                            · have := (hvm i e).kt ((ktw.sub (S' := [9]) (by simp)).trans hst8) (by decide)
                              simpa [List.getD, List.getElem?_append_left (show i < vs.length by omega), List.getElem?_append_left (show i < ns.length by omega)] using this
                            · obtain rfl : i = cnt := by omega
                              have := (show MS wd (.slice ad nd cd) (u ||| s) from ⟨ad, nd, cd, rfl, hsd, hnd, hd⟩).kt ((kt_store hBu.typ [9] (by decide) (.int .i64 (rem4 - ((nd : Int) + 1)))).trans hst8) (by decide)
                              simpa [List.getD, List.getElem?_append_right (show vs.length ≤ i by omega), List.getElem?_append_right (show ns.length ≤ i by omega), hvl2, hvl] using this
                          have HS5 : Hid ((ns ++ [u ||| s]) ++ ((ss.drop (k4 + 1)).map (u ||| ·) ++ prod (us.drop (k3 + 1)) ss) = prod us ss ∧ feed rem (prod us ss) = feed (rem4 - ((nd : Int) + 1)) ((ss.drop (k4 + 1)).map (u ||| ·) ++ prod (us.drop (k3 + 1)) ss)) := by
                            obtain ⟨e0, e1⟩ := HS4.out
                            rw [HM.out] at e0 e1
                            refine ⟨by rw [← e0]; simp, ?_⟩
                            rw [List.cons_append, feed, HPP.out, if_neg (by omega)] at e1
                            exact e1
                          clear ho8 hg8 hoX hst8 R3 hvm hov ktw hsd hnd hB4 hBu hcl hfz hba hoa hob hgb hoc hbc ktc hbd ktd q4 C18 HO4
                          go_roundw
                          case rel => exact ⟨k4 + 1, cnt + 1, rem4 - ((nd : Int) + 1), ns ++ [u ||| s], by omega, by go_num, RO, by omega, by push_cast; omega, fun _ => by omega, HS5, RB⟩
                          case measure => simp [intOf]; omega
                      · have hlt4z : ¬ (k4 : Int) < (sn : Int) := by omega
                        obtain rfl : k4 = sn := by omega
                        have HS5 : Hid (ns ++ prod (us.drop (k3 + 1)) ss = prod us ss ∧ feed rem (prod us ss) = feed rem4 (prod (us.drop (k3 + 1)) ss)) := by
                          have hd0 : ss.drop k4 = [] := List.drop_eq_nil_of_le (by have := HSS.out.1; omega)
                          have := HS4.out
                          rw [hd0] at this
                          simp only [List.map_nil, List.nil_append] at this
                          exact this
                        go_wp2
                        go_roundw
                        case rel => exact ⟨k3 + 1, cnt, rem4, ns, by omega, by go_num, hO4, hm1, hm2, hm3, HS5, hBud4⟩
                        case measure => simp [intOf]; omega
                  · have hlt3z : ¬ (k3 : Int) < (un : Int) := by omega
                    obtain rfl : k3 = un := by omega
                    have hd0 : us.drop k3 = [] := List.drop_eq_nil_of_le (by have := HUS.out.1; omega)
                    have HS5 : Hid (run req b = stages rem3 ns (alts.drop (k + 1))) := by
                      obtain ⟨e0, e1⟩ := HS3.out
                      rw [hd0] at e0 e1
                      have e0' : ns = prod us ss := by simpa [prod] using e0
                      have e1' : feed rem (prod us ss) = (rem3, true) := by simpa [prod, feed] using e1
                      have := HST.out
                      rw [e1'] at this
                      simp only [if_true] at this
                      rw [e0']
                      exact this
                    have hcnt : cnt ≤ 1048576 := by
                      by_cases e : cnt = 0
                      · omega
                      · have := hm3 (by omega)
                        omega
                    clear hd0
                    go_wp2
                    go_roundw
                    case rel => exact ⟨k + 1, cnt, rem3, ns, by omega, by go_num, hO3.mono (Nat.le_trans hBud.size hBud2.size), hcnt, hm1, by omega, HS5, hBud2.trans hBud3⟩
                    case measure => simp [intOf]; omega
              · have hltz : ¬ (k : Int) < (n7 : Int) := by omega
                obtain rfl : k = n7 := by omega
                have HRR : Hid (run req b = (rem, some us)) := by
                  have hd0 : alts.drop k = [] := List.drop_eq_nil_of_le (by have := HTA.out.1; omega)
                  have := HS2.out
                  rw [hd0, stages] at this
                  exact this
                have S20 := sortFunc_all w2 w.heap.size u10 un us hO2
                obtain ⟨ua, uc, UV, rfl, -⟩ := hO2.ss
                clear hO2
                go_wp2_with (first
                  | (go_at_call 20; refine S20.mono ?_; rintro e w5 ⟨rfl, ⟨ms5, ho5, hmem5, hsort5⟩, hb5⟩)
                  | (go_at_call 21; refine (compactFunc_any w5 w.heap.size _ un ms5 ho5 (fun i j h1 h2 => by have h3 := hsort5 i j h1 h2; omega)).mono ?_; rintro e w6 ⟨v6, ms6, rfl, hsv6, hp6, hmem6, hb6⟩)
                  | go_in)
                go_ret2
                rw [HRR.out]
                exact ⟨.inl ⟨v6, ms6, us, rfl, rfl, hsv6, hp6, fun x => (hmem6 x).trans (hmem5 x)⟩, (hBud.trans hBud2).below (hb5.trans hb6) (Nat.le_refl _) hbw⟩
end Go.Proofs.YbulkcfrwFmt.Walks
