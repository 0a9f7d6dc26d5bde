/- Seat b4091aF: the walk of zzs4091cmodel. -/
import Derived.Test.YbulkcfrwFmtModelKit
import Derived.Deep.DeepCutAuto
namespace Go.Proofs.YbulkcfrwFmt.Walks
open Go.RowKit Plain Go.Sort Go.Lib

theorem below_setCells {B blk : Nat} (hB : B ≤ blk) : ∀ (vs : List Value) (o : Nat) (a w : World), Below B a w → Below B a (w.setCells blk o vs)
  | [], _, _, _, h => h
  | v :: r, o, a, _, h => below_setCells hB r (o + 1) a _ (h.setCell (p := ⟨blk, o, none⟩) hB v)
/-- the result's array, read behind the last store -/
theorem load38 {W : World} {rb : Nat} {vs : List Nat} (h : SB W rb vs) (us : List Nat) : (loadVar 38 ⟨rb, 0, none⟩).run Ybaf.prog (W.setCells rb 0 (seenL us)) = .ok (.agg (seenL us).toArray) (W.setCells rb 0 (seenL us)) :=
  run_loadVar_mid _ rb 0 38 (seenL us) (.array 256 4) (World.rangeAt_setCells_same W rb 0 (seenL us) (by rw [seenL_len]; exact h.there)) Ybaf.underlying38 rfl (size38 us)
theorem there38 {W : World} {rb : Nat} {vs : List Nat} (h : SB W rb vs) (us : List Nat) : W.there rb 0 (seenL us).toArray.size := by
  rw [List.size_toArray, seenL_len]; exact h.there
theorem info38 (us : List Nat) : (Ybaf.prog.info? 38).map (·.size) = some (seenL us).toArray.size := by
  rw [List.size_toArray]; exact size38 us

theorem getD_mem (l : List Nat) (i : Nat) (h : i < l.length) : l.getD i 0 ∈ l := by
  rw [List.getD, List.getElem?_eq_getElem h]; simp

set_option maxHeartbeats 2000000 in
set_option maxRecDepth 100000 in
theorem model_any (w : World) (a : Option Addr) (n c : Nat) (V : Nat → Value) (req : List (List Nat)) (h : TB w a n V req) (hn : n ≤ 1024) (hreq : ∀ s ∈ req, s.length ≤ 1024)
    (b : Int) (hb1 : -524288 ≤ b) (hb2 : b ≤ 524288) :
    Calls Ybaf.prog 10 #[.slice a n c, .int .i64 b] w fun e w' => e = .returned (.tuple #[.agg (seenL ((run req b).2.getD [])).toArray, .int .i64 (run req b).1, .bool (run req b).2.isSome]) ∧ Below w.heap.size w w' := by
  have hz38 := zero38
  obtain ⟨i5, hi5, hz5, hs5, hy5⟩ := info_parts facts5
  obtain ⟨i29, hi29, hz29, hs29, hy29⟩ := info_parts facts29
  go_enter Ybaf.func10, Ybaf.ntmps10
  go_upto_region 2 with fail
  have hB0 : Below w.heap.size w ((w.alloc (.cells (seenL []).toArray 38)).alloc (.cells (seenL []).toArray 38)) := ((Below.refl _ _).alloc (Nat.le_refl _) _).alloc (by simp) _
  have hR0 : SB ((w.alloc (.cells (seenL []).toArray 38)).alloc (.cells (seenL []).toArray 38)) w.heap.size [] := by
    unfold SB
    rw [Below.heap_alloc _ _ _ (by simp)]
    exact heap_alloc_last w _
  have hS0 : SB ((w.alloc (.cells (seenL []).toArray 38)).alloc (.cells (seenL []).toArray 38)) (w.heap.size + 1) [] := by
    have := heap_alloc_last (w.alloc (.cells (seenL []).toArray 38)) (.cells (seenL []).toArray 38)
    unfold SB
    simpa using this
  clear hz38
  generalize (w.alloc (.cells (seenL []).toArray 38)).alloc (.cells (seenL []).toArray 38) = wz at *
  have hsz : w.heap.size + 1 < wz.heap.size := (Array.getElem?_eq_some_iff.1 hS0).1
  have hTz := h.later hB0
  clear h
  by_cases hn0 : n = 0
  · subst hn0
    have e : req = [] := List.length_eq_zero_iff.1 hTz.1
    subst e
    clear hTz hreq
    go_wp2_with (first
      | (refine wpList_load_mid rfl 38 (.tmp 7) rfl (w.heap.size + 1) 0 rfl (seenL []) (.array 256 4) hS0.range Ybaf.underlying38 rfl (size38 []) ?_)
      | (refine wpList_store_mid rfl 38 (.tmp 4) (.tmp 27) rfl w.heap.size 0 (seenL []).toArray rfl rfl (there38 hR0 []) (info38 []) (seenL_one []) ?_)
      | go_in)
    (try simp only [Exit.inBlock, Exit.then])
    refine bodyPost_ret (v := .tuple #[.agg (seenL []).toArray, .int .i64 b, .bool true]) ?_ rfl ⟨rfl, below_setCells (Nat.le_refl _) _ _ _ _ hB0⟩
    rw [results_cell_tmp2 rfl]
    simp [asAddr, Result.andThen, load38 hR0 []]
  · obtain ⟨hl, h3, h4⟩ := hTz
    obtain ⟨b0, o0, rfl, hb0, hc0⟩ := h3 (by omega)
    have HC : Hid (∀ i, i < n → wz.cell? ⟨b0, o0 + i, none⟩ = some (V i) ∧ BV wz (V i) (req.getD i [])) := fun i hi => ⟨hc0 i hi, h4 i hi⟩
    have HL : Hid (req.length = n) := hl
    have HR : Hid (∀ s ∈ req, s.length ≤ 1024) := hreq
    have HRS : Hid (SB wz w.heap.size [] ∧ SB wz (w.heap.size + 1) []) := ⟨hR0, hS0⟩
    have hnz : ((n : Int) == 0) = false := by simp; omega
    have hne : req ≠ [] := fun e => hn0 (by rw [← hl, e]; rfl)
    clear h3 h4 hc0 hl hreq hR0 hS0
    go_wp2
    go_loopw [8, 9, 31] (fun s8 s9 s31 wr => ∃ (k na J : Nat) (avs : List Value), k ≤ n ∧ s31 = .int .i64 k ∧ s8 = .int .u8 J ∧ J < 256 ∧ na ≤ k ∧ wr.ownsRow wz.heap.size 29 1 s9 na avs ∧
        Hid (joinedOf (req.take k) = J ∧ (altsOf (req.take k)).length = na ∧ ∀ i, i < na → BV wz (avs.getD i undef) ((altsOf (req.take k)).getD i [])) ∧ Below wz.heap.size wz wr) (fun _ _ s31 _ => n - (intOf s31).toNat)
    case atStart => exact ⟨0, 0, 0, [], Nat.zero_le _, rfl, rfl, by omega, Nat.le_refl _, World.ownsRow_nil _ _ _ _, ⟨rfl, rfl, fun i hi => absurd hi (by omega)⟩, Below.refl _ _⟩
    case round =>
      obtain ⟨k, na, J, avs, hk, rfl, rfl, hJ, hna, ho9, HF, hbr⟩ := hrel
      have hal : avs.length = na := by have := ho9.1; simpa using this
      by_cases hlt : k < n
      · have hltz : (k : Int) < (n : Int) := by omega
        obtain ⟨q0, hsv⟩ := HC.out k hlt
        have q0 := (hbr.cell (p := ⟨b0, o0 + k, none⟩) hb0).trans q0
        obtain ⟨sa, sn, sc, eV, hBL, hNS⟩ := hsv
        rw [eV] at q0
        clear eV
        have hts := take_snoc req k (by have := HL.out; omega)
        by_cases h1 : sn = 1
        · subst h1
          obtain ⟨l1, l2, l3⟩ := hBL
          obtain ⟨sb, so, rfl, hst, hsc⟩ := l3 (by decide)
          have q1 := (hbr.cell (p := ⟨sb, so + 0, none⟩) hst).trans (hsc 0 (by decide))
          rw [Nat.add_zero] at q1
          have hm : (req.getD k []).getD 0 0 < 256 := l2 _ (getD_mem _ 0 (by omega))
          have HJ : Hid (joinedOf (req.take (k + 1)) = joinedOf (req.take k) ||| (req.getD k []).getD 0 0 ∧ altsOf (req.take (k + 1)) = altsOf (req.take k)) := ⟨by
            rw [hts, joinedOf_snoc, if_pos l1]
            congr 1
            cases req.getD k [] <;> rfl, by rw [hts, altsOf_snoc, if_pos l1, List.append_nil]⟩
          clear hts l1 l2 l3 hsc
          generalize (req.getD k []).getD 0 0 = m at *
          have ho : Go.bits .or .u8 (J : Int) (m : Int) = ((J ||| m : Nat) : Int) := u8_or_nat J m hJ hm
          have hJm : J ||| m < 256 := or_lt hJ hm
          go_wp2
          go_roundw
          case rel =>
            refine ⟨k + 1, na, J ||| m, avs, by omega, by go_num, rfl, hJm, by omega, ho9, ⟨?_, ?_, ?_⟩, hbr⟩
            · rw [HJ.out.1, HF.out.1]
            · rw [HJ.out.2]; exact HF.out.2.1
            · rw [HJ.out.2]; exact HF.out.2.2
          case measure => simp [intOf]; omega
        · have h1z : ((sn : Int) == 1) = false := by simp; omega
          have hsl : (req.getD k []).length = sn := hBL.1
          have HSV : Hid (BV wz (.slice sa sn sc) (req.getD k [])) := ⟨sa, sn, sc, rfl, hBL, hNS⟩
          have HJ : Hid (joinedOf (req.take (k + 1)) = joinedOf (req.take k) ∧ altsOf (req.take (k + 1)) = altsOf (req.take k) ++ [req.getD k []]) := ⟨by rw [hts, joinedOf_snoc, if_neg (by omega)], by rw [hts, altsOf_snoc, if_neg (by omega)]⟩
          clear hts hBL hsl hNS
          go_wp2_with (first
            | (at_builtin; refine wpList_append_own _ rfl (.tmp 43) (.tmp 45) 27 rfl wz.heap.size 29 i29 (.slice none 0 0) 1 24 Ybaf.underlying27 hi29 hz29 hs29 hy29 rfl (by decide) _ _ _ rfl (ho9.alloc _) ⟨wr.heap.size, 0, none⟩ 1 1 [.slice sa sn sc] rfl rfl (cell_one_new _ _ _) (by intro u hu; simp at hu; subst hu; rfl) (by unfold maxLen; omega) (by omega) (by have := hbr.size; simp; omega) ?_; intro v' w1 ho' hgrow _)
            | go_in)
          have R3 := appended ho9 hbr hbr.size hgrow
          clear ho9 hbr hgrow q0
          go_roundw
          case rel =>
            refine ⟨k + 1, na + 1, J, avs ++ [.slice sa sn sc], by omega, by go_num, rfl, hJ, by omega, ho', ⟨?_, ?_, ?_⟩, R3⟩
            · rw [HJ.out.1]; exact HF.out.1
            · rw [HJ.out.2]; simp [HF.out.2.1]
            · rw [HJ.out.2]; exact balts_append hal HF.out.2.1 HF.out.2.2 HSV.out
          case measure => simp [intOf]; omega
      · have hltz : ¬ (k : Int) < (n : Int) := by omega
        obtain rfl : k = n := by omega
        have htk : req.take k = req := List.take_of_length_le (by have := HL.out; omega)
        rw [htk] at HF
        obtain ⟨a9, c9, rfl, -⟩ := owns_row ho9
        clear htk
        go_upto_region 14 with fail
        have hBD : Below wz.heap.size wz (wr.alloc (.cells #[.int .u8 J] 5)) := hbr.alloc hbr.size _
        have hOD := ho9.alloc (.cells #[.int .u8 J] 5)
        have hUD : BR (wr.alloc (.cells #[.int .u8 J] 5)) wz.heap.size (.slice (some ⟨wr.heap.size, 0, none⟩) 1 1) 1 [J] := BR.one hbr.size hJ
        have hsD : wr.heap.size < (wr.alloc (.cells #[.int .u8 J] 5)).heap.size := by simp
        clear ho9
        go_cut [56] (fun c56 wx => c56 = .bool (decide (J = 0 ∧ 0 < na)) ∧ wx = wr.alloc (.cells #[.int .u8 J] 5))
        case first =>
          by_cases e0 : J = 0
          · have e0z : ((J : Int) == 0) = true := by simp [e0]
            by_cases e1 : 0 < na
            · have e1z : decide ((0 : Int) < (na : Int)) = true := by simp; omega
              have e2 : Hid (decide (J = 0 ∧ 0 < na) = true) := decide_eq_true ⟨e0, e1⟩
              clear e0
              go_wp2
              go_meet
              exact ⟨by rw [e2.out], rfl⟩
            · have e1z : decide ((0 : Int) < (na : Int)) = false := by simp; omega
              have e2 : Hid (decide (J = 0 ∧ 0 < na) = false) := decide_eq_false (fun h => e1 h.2)
              clear e0
              go_wp2
              go_meet
              exact ⟨by rw [e2.out], rfl⟩
          · have e0z : ((J : Int) == 0) = false := by simp; omega
            have e2 : Hid (decide (J = 0 ∧ 0 < na) = false) := decide_eq_false (fun h => e0 h.1)
            clear e0
            go_wp2
            go_meet
            exact ⟨by rw [e2.out], rfl⟩
        case rest =>
          obtain ⟨rfl, rfl⟩ := hcut
          generalize wr.alloc (.cells #[.int .u8 J] 5) = wD at *
          go_upto_if 56 with fail
          go_cut [9, 12] (fun v9 v12 wx => ∃ a9 n9 c9 W9 alts un us, v9 = .slice a9 n9 c9 ∧ n9 ≤ 1024 ∧ TB wx a9 n9 W9 alts ∧ BR wx wz.heap.size v12 un us ∧ un ≤ 1024 ∧ Hid (run req b = stages b us alts ∧ ∀ s ∈ alts, s.length ≤ 1024) ∧ Below wz.heap.size wz wx)
          case first =>
            have HA : Hid (∀ i, i < na → BV wD (avs.getD i undef) ((altsOf req).getD i [])) := fun i hi => (HF.out.2.2 i hi).later hBD
            by_cases hif : J = 0 ∧ 0 < na
            · simp only [decide_eq_true hif]
              obtain ⟨hj0, hna0⟩ := hif
              have HRun : Hid (run req b = stages b ((altsOf req).headD []) (altsOf req).tail) := by
                have hJJ := HF.out.1
                have hll := HF.out.2.1
                show run req b = stages b ((altsOf req).headD []) (altsOf req).tail
                unfold run
                rw [if_neg hne, if_pos]
                refine ⟨by omega, fun e => ?_⟩
                rw [e] at hll
                simp at hll
                omega
              obtain ⟨a', c', e1, e2, e3, e4⟩ := owns_row hOD
              cases e1
              obtain ⟨g, o9, rfl, hT9, hC9⟩ := e3 hna0
              obtain ⟨sa, sn, sc, eV, hBL, hNS⟩ := HA.out 0 hna0
              have q0 := hC9 0 hna0
              rw [eV, Nat.add_zero] at q0
              have hcap : na ≤ c9 := by
                rcases hOD.2 with ⟨h0, _⟩ | ⟨g', cap', cur', e', _, _, hc', _⟩
                · cases h0
                · cases e'; exact hc'
              have hnaz : (1 : Int) ≤ (na : Int) := by omega
              have hcaz : (1 : Int) ≤ (c9 : Int) := by omega
              have h0m : (altsOf req).getD 0 [] ∈ altsOf req := by
                rw [List.getD, List.getElem?_eq_getElem (by rw [HF.out.2.1]; exact hna0)]; simp
              have hsn : sn ≤ 1024 := by rw [← hBL.1]; exact HR.out _ (alts_mem h0m)
              have HBL : Hid (BL wD sa sn ((altsOf req).getD 0 [])) := hBL
              have HC9 : Hid (∀ i, i < na → wD.cell? ⟨g, o9 + i, none⟩ = some (avs.getD i undef)) := hC9
              have hgl : g < wD.heap.size := hT9.lt
              have hzD : wz.heap.size ≤ wD.heap.size := hBD.size
              clear hOD hUD e3 e4 hC9 hBL hj0 h0m hT9
              by_cases hc1 : c9 = 1
              · subst hc1
                obtain rfl : na = 1 := by omega
                go_wp2_with (first
                  | (at_builtin; refine wpList_append_own_src rfl (.const (.slice none 0 0)) (.tmp 59) 29 rfl wz.heap.size 5 i5 (.int .u8 0) 1 Ybaf.underlying29 hi5 hz5 hs5 hy5 rfl _ _ _ rfl (World.ownsRow_nil _ _ _ _) sa sn sc hNS (((altsOf req).getD 0 []).map u8c) rfl (by rw [List.length_map]; exact HBL.out.1) (cells_BL HBL.out) (one_u8 _) (by unfold maxLen; omega) (by omega) hzD ?_; intro v' wE ho' hgrow)
                  | go_in)
                go_meet
                have hbD : Below wz.heap.size wD wE := appended0 (World.ownsRow_nil wD wz.heap.size 5 1) (Below.refl _ _) hzD hgrow
                have hbG : Below wD.heap.size wD wE := appended0 (World.ownsRow_nil wD wD.heap.size 5 1) (Below.refl _ _) (Nat.le_refl _) hgrow
                exact ⟨_, _, _, fun i => avs.getD (i + 1) undef, (altsOf req).tail, sn, (altsOf req).getD 0 [], rfl, by omega,
                  ⟨by simp [HF.out.2.1], fun hp => ⟨g, o9 + 1, by first | rfl | omega, Nat.lt_of_lt_of_le hgl hbG.size, fun i hi => (hbG.cell (p := ⟨g, o9 + 1 + i, none⟩) hgl).trans (by have := HC9.out (i + 1) (by omega); rw [show o9 + (i + 1) = o9 + 1 + i by omega] at this; exact this)⟩,
                    fun i hi => by have := (HA.out (i + 1) (by omega)).later hbG; rw [tail_getD]; exact this⟩,
                  ⟨by simpa using ho', HBL.out.2.1, by omega⟩, by omega,
                  ⟨by rw [HRun.out, headD_getD], fun s hs => HR.out s (alts_mem (List.mem_of_mem_tail hs))⟩, hBD.trans hbD⟩
              · have hc1z : ¬ (c9 : Int) = 1 := by omega
                go_wp2_with (first
                  | (at_builtin; refine wpList_append_own_src rfl (.const (.slice none 0 0)) (.tmp 59) 29 rfl wz.heap.size 5 i5 (.int .u8 0) 1 Ybaf.underlying29 hi5 hz5 hs5 hy5 rfl _ _ _ rfl (World.ownsRow_nil _ _ _ _) sa sn sc hNS (((altsOf req).getD 0 []).map u8c) rfl (by rw [List.length_map]; exact HBL.out.1) (cells_BL HBL.out) (one_u8 _) (by unfold maxLen; omega) (by omega) hzD ?_; intro v' wE ho' hgrow)
                  | go_in)
                go_meet
                have hbD : Below wz.heap.size wD wE := appended0 (World.ownsRow_nil wD wz.heap.size 5 1) (Below.refl _ _) hzD hgrow
                have hbG : Below wD.heap.size wD wE := appended0 (World.ownsRow_nil wD wD.heap.size 5 1) (Below.refl _ _) (Nat.le_refl _) hgrow
                exact ⟨_, _, _, fun i => avs.getD (i + 1) undef, (altsOf req).tail, sn, (altsOf req).getD 0 [], rfl, by omega,
                  ⟨by simp [HF.out.2.1], fun hp => ⟨g, o9 + 1, by first | rfl | omega, Nat.lt_of_lt_of_le hgl hbG.size, fun i hi => (hbG.cell (p := ⟨g, o9 + 1 + i, none⟩) hgl).trans (by have := HC9.out (i + 1) (by omega); rw [show o9 + (i + 1) = o9 + 1 + i by omega] at this; exact this)⟩,
                    fun i hi => by have := (HA.out (i + 1) (by omega)).later hbG; rw [tail_getD]; exact this⟩,
                  ⟨by simpa using ho', HBL.out.2.1, by omega⟩, by omega,
                  ⟨by rw [HRun.out, headD_getD], fun s hs => HR.out s (alts_mem (List.mem_of_mem_tail hs))⟩, hBD.trans hbD⟩
            · simp only [decide_eq_false hif]
              have HRun : Hid (run req b = stages b [J] (altsOf req)) := by
                have hJJ := HF.out.1
                have hll := HF.out.2.1
                show run req b = stages b [J] (altsOf req)
                unfold run
                rw [if_neg hne, if_neg, hJJ]
                rintro ⟨r1, r2⟩
                refine hif ⟨by omega, ?_⟩
                rw [← hll]
                exact List.length_pos_iff.2 r2
              have HOD : Hid (wD.ownsRow wz.heap.size 29 1 (.slice a9 na c9) na avs) := hOD
              have HUD : Hid (BR wD wz.heap.size (.slice (some ⟨wr.heap.size, 0, none⟩) 1 1) 1 [J]) := hUD
              clear hOD hUD
              go_wp2
              go_meet
              obtain ⟨a', c', e1, e2, e3, e4⟩ := owns_row HOD.out
              cases e1
              exact ⟨a9, na, c9, fun i => avs.getD i undef, altsOf req, 1, [J], rfl, by omega, ⟨HF.out.2.1, fun hp => by obtain ⟨b', o', r1, r2, r3⟩ := e3 hp; exact ⟨b', o', r1, r2.lt, r3⟩, HA.out⟩, HUD.out, by omega, ⟨HRun.out, fun s hs => HR.out s (alts_mem hs)⟩, hBD⟩
          case rest =>
            rename World => wA
            obtain ⟨a9', n9, c9', W9, alts, un0, us0, rfl, hn9, hTB, hBR, hun, HH, hbA⟩ := hcut
            have HTA : Hid (TB wA a9' n9 W9 alts) := hTB
            have hwA : wz.heap.size ≤ wA.heap.size := hbA.size
            clear hTB HC hBD hOD hUD hbr HF hsD HL
            go_wp2
            go_loopw [12, 13, 66] (fun s12 s13 s66 wr => ∃ (k un : Nat) (rem : Int) (us : List Nat), k ≤ n9 ∧ s66 = .int .i64 k ∧ s13 = .int .i64 rem ∧ BR wr wz.heap.size s12 un us ∧ -524288 ≤ rem ∧ rem ≤ 524288 ∧ Hid (run req b = stages rem us (alts.drop k)) ∧ Below wA.heap.size wA wr) (fun _ _ s66 _ => n9 - (intOf s66).toNat)
            case atStart => exact ⟨0, un0, b, us0, Nat.zero_le _, rfl, rfl, hBR, hb1, hb2, by rw [List.drop_zero]; exact HH.out.1, Below.refl _ _⟩
            case round =>
              rename World => w2
              obtain ⟨k, un, rem, us, hk, rfl, rfl, hO2, hr1, hr2, HS2, hB2⟩ := hrel
              have hw2 : wz.heap.size ≤ w2.heap.size := Nat.le_trans hwA hB2.size
              by_cases hlt : k < n9
              · have hltz : (k : Int) < (n9 : Int) := by omega
                obtain ⟨lT, cT, sT⟩ := HTA.out.later hB2
                obtain ⟨b9, o9, rfl, hT9, hC9⟩ := cT (by omega)
                have q0 := hC9 k hlt
                obtain ⟨sa, sn, sc, eV, hBL, hNS⟩ := sT k hlt
                rw [eV] at q0
                have hss : alts.getD k [] ∈ alts := by rw [List.getD, List.getElem?_eq_getElem (by omega)]; simp
                have hsn : sn ≤ 1024 := by rw [← hBL.1]; exact HH.out.2 _ hss
                have HST : Hid (run req b = if (feed rem (prod us (alts.getD k []))).2 then stages (feed rem (prod us (alts.getD k []))).1 (prod us (alts.getD k [])) (alts.drop (k + 1)) else ((feed rem (prod us (alts.getD k []))).1, none)) := HS2.out.trans (stages_step rem us alts k (by omega))
                generalize alts.getD k [] = ss at *
                obtain ⟨ua, uc, rfl, hUS⟩ := hO2.bl
                have hun2 : un ≤ 1048576 := hO2.2.2
                have HUS : Hid (BL w2 ua un us) := hUS
                have HSS : Hid (BL w2 sa sn ss) := hBL
                clear hUS hBL cT sT hC9 eV hss hO2 hNS
                go_wp2
                go_loopw [13, 16, 72] (fun s13 s16 s72 wr => ∃ (k3 cnt : Nat) (rem3 : Int) (ns : List Nat), k3 ≤ un ∧ s72 = .int .i64 k3 ∧ s13 = .int .i64 rem3 ∧ BR wr w2.heap.size s16 cnt ns ∧ -524288 ≤ rem3 ∧ (cnt : Int) + rem3 ≤ rem ∧ (0 < cnt → 0 ≤ rem3) ∧ Hid (ns ++ prod (us.drop k3) ss = prod us ss ∧ feed rem (prod us ss) = feed rem3 (prod (us.drop k3) ss)) ∧ Below w2.heap.size w2 wr) (fun _ _ s72 _ => un - (intOf s72).toNat)
                case atStart => exact ⟨0, 0, rem, [], Nat.zero_le _, rfl, rfl, BR.nil _ _, hr1, by omega, fun h => absurd h (by omega), ⟨by simp, by simp⟩, Below.refl _ _⟩
                case round =>
                  rename World => w3
                  obtain ⟨k3, cnt, rem3, ns, hk3, rfl, rfl, hO3, hm1, hm2, hm3, HS3, hB3⟩ := hrel
                  by_cases hlt3 : k3 < un
                  · have hlt3z : (k3 : Int) < (un : Int) := by omega
                    obtain ⟨lU, xU, cU⟩ := HUS.out.later hB3
                    obtain ⟨ub, uo, rfl, hTu, hCu⟩ := cU (by omega)
                    have q3 := hCu k3 hlt3
                    have hu : us.getD k3 0 < 256 := xU _ (getD_mem _ _ (by omega))
                    have HP : Hid (prod (us.drop k3) ss = ss.map (us.getD k3 0 ||| ·) ++ prod (us.drop (k3 + 1)) ss) := prod_step us ss k3 (by omega)
                    generalize us.getD k3 0 = u at *
                    clear cU xU hCu
                    go_wp2
                    go_loopw [13, 16, 78] (fun s13 s16 s78 wr => ∃ (k4 cnt : Nat) (rem4 : Int) (ns : List Nat), k4 ≤ sn ∧ s78 = .int .i64 k4 ∧ s13 = .int .i64 rem4 ∧ BR wr w2.heap.size s16 cnt ns ∧ -524288 ≤ rem4 ∧ (cnt : Int) + rem4 ≤ rem ∧ (0 < cnt → 0 ≤ rem4) ∧ Hid (ns ++ ((ss.drop k4).map (u ||| ·) ++ prod (us.drop (k3 + 1)) ss) = prod us ss ∧ feed rem (prod us ss) = feed rem4 ((ss.drop k4).map (u ||| ·) ++ prod (us.drop (k3 + 1)) ss)) ∧ Below w2.heap.size w2 wr) (fun _ _ s78 _ => sn - (intOf s78).toNat)
                    case atStart => exact ⟨0, cnt, rem3, ns, Nat.zero_le _, rfl, rfl, hO3, hm1, hm2, hm3, by rw [List.drop_zero, ← HP.out]; exact HS3.out, hB3⟩
                    case round =>
                      rename World => w4
                      clear hO3 hB3 hm1 hm2 hm3 HS3
                      obtain ⟨k4, cnt, rem4, ns, hk4, rfl, rfl, hO4, hm1, hm2, hm3, HS4, hB4⟩ := hrel
                      have hw42 := hB4.size
                      by_cases hlt4 : k4 < sn
                      · have hlt4z : (k4 : Int) < (sn : Int) := by omega
                        obtain ⟨lS, xS, cS⟩ := HSS.out.later hB4
                        obtain ⟨sb, so, rfl, hTs, hCs⟩ := cS (by omega)
                        have q4 := hCs k4 hlt4
                        have hs : ss.getD k4 0 < 256 := xS _ (getD_mem _ _ (by omega))
                        have HM : Hid ((ss.drop k4).map (u ||| ·) = (u ||| ss.getD k4 0) :: (ss.drop (k4 + 1)).map (u ||| ·)) := map_step u ss k4 (by omega)
                        generalize ss.getD k4 0 = s at *
                        have ho : Go.bits .or .u8 (u : Int) (s : Int) = ((u ||| s : Nat) : Int) := u8_or_nat u s hu hs
                        have hus : u ||| s < 256 := or_lt hu hs
                        have hpop := pop_any (u ||| s) hus w4
                        generalize u ||| s = t at *
                        have hP8 : pop t ≤ 8 := pop_le _
                        obtain ⟨P, hP⟩ : ∃ P, pop t = P := ⟨_, rfl⟩
                        have HPP : Hid (pop t = P) := hP
                        rw [hP] at hpop hP8
                        have hwr : IntKind.i64.wrap (rem4 - ((P : Int) + 1)) = rem4 - ((P : Int) + 1) := by simp [IntKind.wrap, IntKind.bits, IntKind.signed]; omega
                        have HO4 : Hid (BR w4 w2.heap.size u16 cnt ns) := hO4
                        have HRS4 : Hid (SB w4 w.heap.size [] ∧ SB w4 (w.heap.size + 1) []) := by
                          have hbb : Below wz.heap.size wz w4 := (hbA.trans (hB2.mono hwA)).trans (hB4.mono hw2)
                          exact ⟨HRS.out.1.later hbb (by omega), HRS.out.2.later hbb (by omega)⟩
                        clear hCs cS xS hP hO4
                        by_cases hneg : rem4 - ((P : Int) + 1) < 0
                        · have hR4 := HRS4.out.1
                          have hS4 := HRS4.out.2
                          go_wp2_with (first
                            | (go_at_call 23; refine hpop.mono ?_; rintro e wp ⟨rfl, rfl⟩)
                            | (refine wpList_load_mid rfl 38 (.tmp 7) rfl (w.heap.size + 1) 0 rfl (seenL []) (.array 256 4) hS4.range Ybaf.underlying38 rfl (size38 []) ?_)
                            | (refine wpList_store_mid rfl 38 (.tmp 4) (.tmp 92) rfl w.heap.size 0 (seenL []).toArray rfl rfl (there38 hR4 []) (info38 []) (seenL_one []) ?_)
                            | go_in)
                          (try simp only [Exit.inBlock, Exit.then])
                          have hrun : run req b = (rem4 - ((P : Int) + 1), none) := by
                            have e1 := HS4.out.2
                            rw [HM.out, List.cons_append, feed, HPP.out, if_pos (by omega)] at e1
                            rw [HST.out, e1]
                            rfl
                          rw [hrun]
                          refine bodyPost_ret (v := .tuple #[.agg (seenL []).toArray, .int .i64 (rem4 - ((P : Int) + 1)), .bool false]) ?_ rfl ⟨rfl, below_setCells (Nat.le_refl _) _ _ _ _ ((hB0.trans ((hbA.trans (hB2.mono hwA)).mono hB0.size)).trans (hB4.mono (Nat.le_trans hB0.size hw2)))⟩
                          rw [results_cell_tmp2 rfl]
                          simp [asAddr, Result.andThen, load38 hR4 []]
                        · have hown := HO4.out.1
                          have hcn := HO4.out.2.2
                          go_wp2_with (first
                            | (go_at_call 23; refine hpop.mono ?_; rintro e wp ⟨rfl, rfl⟩)
                            | (at_builtin; refine wpList_append_own _ rfl (.tmp 94) (.tmp 96) 29 rfl w2.heap.size 5 i5 (.int .u8 0) 1 1 Ybaf.underlying29 hi5 hz5 hs5 hy5 rfl (by decide) _ _ _ rfl (hown.alloc _) ⟨w4.heap.size, 0, none⟩ 1 1 [u8c t] rfl rfl (cell_one_new _ _ _) (by intro u hu; simp at hu; subst hu; rfl) (by unfold maxLen; omega) (by omega) (by simp; omega) ?_; intro v' w8 ho8 hg8 _)
                            | go_in)
                          have R3 := appended hown hB4 hw42 hg8
                          have RO : BR w8 w2.heap.size v' (cnt + 1) (ns ++ [t]) := ⟨by simpa using ho8, fun x hx => by
                            rcases List.mem_append.1 hx with h | h
                            · exact HO4.out.2.1 x h
                            · simp at h; omega, by omega⟩
                          have HS5 : Hid ((ns ++ [t]) ++ ((ss.drop (k4 + 1)).map (u ||| ·) ++ prod (us.drop (k3 + 1)) ss) = prod us ss ∧ feed rem (prod us ss) = feed (rem4 - ((P : Int) + 1)) ((ss.drop (k4 + 1)).map (u ||| ·) ++ prod (us.drop (k3 + 1)) ss)) := by
                            obtain ⟨e0, e1⟩ := HS4.out
                            rw [HM.out] at e0 e1
                            refine ⟨by rw [← e0]; simp, ?_⟩
                            rw [List.cons_append, feed, HPP.out, if_neg (by omega)] at e1
                            exact e1
                          clear ho8 hg8 hown q4
                          go_roundw
                          case rel => exact ⟨k4 + 1, cnt + 1, rem4 - ((P : Int) + 1), ns ++ [t], by omega, by go_num, rfl, RO, by omega, by push_cast; omega, fun _ => by omega, HS5, R3⟩
                          case measure => simp [intOf]; omega
                      · have hlt4z : ¬ (k4 : Int) < (sn : Int) := by omega
                        obtain rfl : k4 = sn := by omega
                        have HS5 : Hid (ns ++ prod (us.drop (k3 + 1)) ss = prod us ss ∧ feed rem (prod us ss) = feed rem4 (prod (us.drop (k3 + 1)) ss)) := by
                          have hd0 : ss.drop k4 = [] := List.drop_eq_nil_of_le (by have := HSS.out.1; omega)
                          have := HS4.out
                          rw [hd0] at this
                          simp only [List.map_nil, List.nil_append] at this
                          exact this
                        go_wp2
                        go_roundw
                        case rel => exact ⟨k3 + 1, cnt, rem4, ns, by omega, by go_num, rfl, hO4, hm1, hm2, hm3, HS5, hB4⟩
                        case measure => simp [intOf]; omega
                  · have hlt3z : ¬ (k3 : Int) < (un : Int) := by omega
                    obtain rfl : k3 = un := by omega
                    have hd0 : us.drop k3 = [] := List.drop_eq_nil_of_le (by have := HUS.out.1; omega)
                    have HS5 : Hid (run req b = stages rem3 ns (alts.drop (k + 1))) := by
                      obtain ⟨e0, e1⟩ := HS3.out
                      rw [hd0] at e0 e1
                      have e0' : ns = prod us ss := by simpa [prod] using e0
                      have e1' : feed rem (prod us ss) = (rem3, true) := by simpa [prod, feed] using e1
                      have := HST.out
                      rw [e1'] at this
                      simp only [if_true] at this
                      rw [e0']
                      exact this
                    clear hd0
                    go_wp2
                    go_roundw
                    case rel => exact ⟨k + 1, cnt, rem3, ns, by omega, by go_num, rfl, hO3.mono hw2, hm1, by omega, HS5, hB2.trans (hB3.mono hB2.size)⟩
                    case measure => simp [intOf]; omega
              · have hltz : ¬ (k : Int) < (n9 : Int) := by omega
                obtain rfl : k = n9 := by omega
                have HRR : Hid (run req b = (rem, some us)) := by
                  have hd0 : alts.drop k = [] := List.drop_eq_nil_of_le (by have := HTA.out.1; omega)
                  have := HS2.out
                  rw [hd0, stages] at this
                  exact this
                obtain ⟨ua, uc, rfl, hUS⟩ := hO2.bl
                have hBz : Below wz.heap.size wz w2 := hbA.trans (hB2.mono hwA)
                have HRS2 : Hid (SB w2 w.heap.size [] ∧ SB w2 (w.heap.size + 1) []) := ⟨HRS.out.1.later hBz (by omega), HRS.out.2.later hBz (by omega)⟩
                have hBw : Below w.heap.size w w2 := hB0.trans (hBz.mono hB0.size)
                have HO2 : Hid (BR w2 wz.heap.size (.slice ua un uc) un us) := hO2
                have hun2 : un ≤ 1048576 := hO2.2.2
                clear hO2 hUS
                go_wp2
                go_loopw [104] (fun s104 wr => ∃ k5 : Nat, k5 ≤ un ∧ s104 = .int .i64 k5 ∧ SB wr w.heap.size [] ∧ SB wr (w.heap.size + 1) (us.take k5) ∧ Below w.heap.size w wr ∧ KT [5] w2 wr) (fun s104 _ => un - (intOf s104).toNat)
                case atStart => exact ⟨0, Nat.zero_le _, rfl, HRS2.out.1, by rw [List.take_zero]; exact HRS2.out.2, hBw, .below (Below.refl _ _)⟩
                case round =>
                  rename World => w5
                  obtain ⟨k5, hk5, rfl, hR5, hS5, hB5, kt5⟩ := hrel
                  have hl5 : us.length = un := by have := HO2.out.1.1; simpa using this
                  by_cases hlt5 : k5 < un
                  · have hlt5z : (k5 : Int) < (un : Int) := by omega
                    obtain ⟨a', c', e1, -, x5, hb5⟩ := BR.bl (w := w5) ⟨owns_kt HO2.out.1 kt5 (by decide), HO2.out.2⟩
                    cases e1
                    obtain ⟨ub, uo, rfl, -, hC5⟩ := hb5 (by omega)
                    have q5 := hC5 k5 hlt5
                    have hu : us.getD k5 0 < 256 := x5 _ (getD_mem _ _ (by omega))
                    have htk : us.take k5 ++ [us.getD k5 0] = us.take (k5 + 1) := by
                      rw [List.take_add_one, List.getElem?_eq_getElem (by omega)]
                      simp [List.getD, show k5 < us.length by omega]
                    generalize us.getD k5 0 = u at *
                    have huz : (u : Int) < 256 := by omega
                    have cS := hS5.cell u hu
                    have fS := hS5.frozen u
                    have HT : Hid (us.take k5 ++ [u] = us.take (k5 + 1)) := htk
                    have HSR : Hid (SB w5 w.heap.size [] ∧ SB w5 (w.heap.size + 1) (us.take k5)) := ⟨hR5, hS5⟩
                    generalize decide (u ∈ us.take k5) = old at *
                    clear hC5 hb5 x5 htk hR5 hS5
                    go_wp2
                    go_roundw
                    case rel =>
                      refine ⟨k5 + 1, by omega, by go_num, ?_, ?_, hB5.setCell (p := ⟨w.heap.size + 1, u, none⟩) (by show w.heap.size ≤ w.heap.size + 1; omega) _, ?_⟩
                      · unfold SB
                        rw [Below.heap_setCell _ _ _ _ (by show w.heap.size ≠ w.heap.size + 1; omega)]
                        exact HSR.out.1
                      · rw [← HT.out]
                        exact HSR.out.2.store u
                      · refine kt5.trans fun b T hT hS => Below.heap_setCell _ _ _ _ fun e => ?_
                        have e' : b = w.heap.size + 1 := e
                        subst e'
                        have h38 : T = 38 := hT.one ⟨_, _, HSR.out.2⟩
                        rw [h38] at hS
                        exact absurd hS (by decide)
                    case measure => simp [intOf]; omega
                  · have hlt5z : ¬ (k5 : Int) < (un : Int) := by omega
                    obtain rfl : k5 = un := by omega
                    rw [List.take_of_length_le (by omega)] at hS5
                    go_wp2_with (first
                      | (refine wpList_load_mid rfl 38 (.tmp 7) rfl (w.heap.size + 1) 0 rfl (seenL us) (.array 256 4) hS5.range Ybaf.underlying38 rfl (size38 us) ?_)
                      | (refine wpList_store_mid rfl 38 (.tmp 4) (.tmp 111) rfl w.heap.size 0 (seenL us).toArray rfl rfl (there38 hR5 us) (info38 us) (seenL_one us) ?_)
                      | go_in)
                    (try simp only [Exit.inBlock, Exit.then])
                    rw [HRR.out]
                    refine bodyPost_ret (v := .tuple #[.agg (seenL us).toArray, .int .i64 rem, .bool true]) ?_ rfl ⟨rfl, below_setCells (Nat.le_refl _) _ _ _ _ hB5⟩
                    rw [results_cell_tmp2 rfl]
                    simp [asAddr, Result.andThen, load38 hR5 us]
end Go.Proofs.YbulkcfrwFmt.Walks
