/- Seat b4091aF: the walk of LawS4091CModel. -/
import Derived.Test.YbulkcfrwFmtLawKit
import Derived.Test.YbulkcfrwFmtLeaves2
import Derived.Deep.DeepCutAuto
namespace Go.Proofs.YbulkcfrwFmt.Walks
open Go.RowKit Plain Go.Sort Go.Lib

theorem SV.nil (w : World) : SV w (.slice none 0 0) [] := ⟨none, 0, 0, fun _ => undef, rfl, ⟨rfl, by omega, fun h => absurd h (by omega), fun i hi => absurd hi (by omega)⟩, (fun _ => ⟨rfl, rfl⟩), (fun ad h => by cases h)⟩

/-- what combine leaves alone, seen from the law's own start -/
theorem bud_below {w w3 w4 : World} {bb : Nat} {r : Int} (h : Below w.heap.size w w3) (hb : Bud bb r w3 w4) (hbb : w.heap.size ≤ bb) : Below w.heap.size w w4 :=
  ⟨hb.os.trans h.os, hb.tape.trans h.tape, hb.output.trans h.output, Nat.le_trans h.size hb.size, fun k hk => (hb.block k (Nat.lt_of_lt_of_le hk h.size) (by omega)).trans (h.block k hk)⟩
theorem thereNew {Z0 Z : Array Value} {us : List Nat} (h0 : (seenL []).toArray = Z0) (h : (seenL us).toArray = Z) (w : World) : (w.alloc (.cells Z0 38)).there w.heap.size 0 Z.size := by
  subst h0 h
  exact there38 (show SB (w.alloc (.cells (seenL []).toArray 38)) w.heap.size [] from heap_alloc_last w _) us
theorem infoZ {Z : Array Value} {us : List Nat} (h : (seenL us).toArray = Z) : (Ybaf.prog.info? 38).map (·.size) = some Z.size := by subst h; exact info38 us
theorem oneZ {Z : Array Value} {us : List Nat} (h : (seenL us).toArray = Z) : Z.all (·.oneCell') = true := by subst h; exact seenL_one us
theorem rangeZ {Z0 Z : Array Value} {us : List Nat} (h0 : (seenL []).toArray = Z0) (h : (seenL us).toArray = Z) (w : World) : ((w.alloc (.cells Z0 38)).setCells w.heap.size 0 Z.toList).rangeAt w.heap.size 0 (seenL us) := by
  have ht := thereNew h0 h w
  subst h
  exact World.rangeAt_setCells_same _ _ _ _ (by simpa using ht)
theorem old_cell {w : World} {base g n c : Nat} {e : TypeId} {vs : List Value} (h : w.ownsRow base e 1 (.slice (some ⟨g, 0, none⟩) n c) n vs) (i : Nat) (hi : i < n) : ∃ old, w.cell? ⟨g, i, none⟩ = some old ∧ w.frozen? ⟨g, i, none⟩ = false :=
  ⟨_, ((owns_typ h).2.2 i hi).1, ((owns_typ h).2.2 i hi).2⟩

set_option maxHeartbeats 1000000 in
set_option maxRecDepth 100000 in
theorem law_any (F : Go.Stop.Interp) (w : World) (hF : F.answers w.tape) (a : Option Addr) (n c : Nat) (V : Nat → Value) (req : List (List Nat)) (h : TB w a n V req) (bud : Int) (hb1 : -32768 ≤ bud) (hb2 : bud ≤ 32767) :
    Calls Ybaf.prog 5 #[.slice a n c, .int .i16 bud] w fun e w' => e = .returned (.bool true) ∧ Below w.heap.size w w' := by
  by_cases hbig : 1024 < n
  · have hz : (1024 : Int) < (n : Int) := by omega
    clear h
    go_enter Ybaf.func5, Ybaf.ntmps5
    go_wp2
    go_ret
    exact ⟨rfl, Below.refl _ _⟩
  · have hz : ¬ (1024 : Int) < (n : Int) := by omega
    have hn : n ≤ 1024 := by omega
    have HT : Hid (TB w a n V req) := h
    clear h hbig
    go_enter Ybaf.func5, Ybaf.ntmps5
    go_wp2
    go_loop [37] (fun s37 => ∃ k : Nat, k ≤ n ∧ s37 = .int .i64 k ∧ Hid (∀ i, i < k → (req.getD i []).length ≤ 1024)) (fun s37 => n - (intOf s37).toNat)
    case atStart => exact ⟨0, Nat.zero_le _, rfl, fun i hi => absurd hi (by omega)⟩
    case round =>
      obtain ⟨k, hk, rfl, A⟩ := hrel
      by_cases hlt : k < n
      · have hltz : (k : Int) < (n : Int) := by omega
        obtain ⟨hl, h3, h4⟩ := HT.out
        obtain ⟨b0, o0, rfl, hb0, hc0⟩ := h3 (by omega)
        have q0 := hc0 k hlt
        obtain ⟨sa, sn, sc, eV, hBL, hNS⟩ := h4 k hlt
        rw [eV] at q0
        have hsl : (req.getD k []).length = sn := hBL.1
        by_cases hsn : 1024 < sn
        · have hsz : (1024 : Int) < (sn : Int) := by omega
          clear h3 h4 hc0 hBL hNS eV hsl
          go_wp2
          go_ret
          exact ⟨rfl, Below.refl _ _⟩
        · have hsz : ¬ (1024 : Int) < (sn : Int) := by omega
          have A2 : Hid (∀ i, i < k + 1 → (req.getD i []).length ≤ 1024) := fun i hi => by
            by_cases e : i = k
            · subst e; omega
            · exact A.out i (by omega)
          clear h3 h4 hc0 hBL hNS eV hsl
          go_wp2
          go_round
          case rel => exact ⟨k + 1, by omega, by go_num, A2⟩
          case measure => simp [intOf]; omega
      · have hltz : ¬ (k : Int) < (n : Int) := by omega
        obtain rfl : k = n := by omega
        have hrq : ∀ s ∈ req, s.length ≤ 1024 := fun s hs => by
          obtain ⟨i, hi, e⟩ := List.getElem_of_mem hs
          have := A.out i (by have := HT.out.1; omega)
          rw [List.getD, List.getElem?_eq_getElem hi] at this
          simp only [Option.getD_some] at this
          rw [← e]; exact this
        have HRQ : Hid (∀ s ∈ req, s.length ≤ 1024) := hrq
        have hmk := make30 k hn
        have he := fun a n c w => Lib.run_eql_slice_nil (P := Ybaf.prog) w 29 5 a n c 0 0 Ybaf.underlying29
        clear hrq
        go_wp2
        have hOw := made_owns w w.heap.size k 31 (Nat.le_refl _) hn
        have H0 : Hid (∀ i, i < k → SV (w.alloc (.cells (setrow k) 31)) ((List.replicate k (Value.slice none 0 0)).getD i undef) (if i < 0 then req.getD i [] else [])) := fun i hi => by
          have e : (List.replicate k (Value.slice none 0 0)).getD i undef = .slice none 0 0 := by simp [List.getD, hi]
          rw [if_neg (by omega), e]
          exact SV.nil _
        clear hmk
        go_loopw [50] (fun s50 wr => ∃ (k2 : Nat) (vs : List Value), k2 ≤ k ∧ s50 = .int .i64 k2 ∧ wr.ownsRow w.heap.size 31 1 (.slice (some ⟨w.heap.size, 0, none⟩) k k) k vs ∧ Hid (∀ i, i < k → SV wr (vs.getD i undef) (if i < k2 then req.getD i [] else [])) ∧ Below w.heap.size w wr) (fun s50 _ => k - (intOf s50).toNat)
        case atStart => exact ⟨0, _, Nat.zero_le _, rfl, hOw, H0, (Below.refl _ _).alloc (Nat.le_refl _) _⟩
        case round =>
          rename World => w2
          obtain ⟨k2, vs, hk2, rfl, ho2, HV2, hB2⟩ := hrel
          have hvl : vs.length = k := by have := ho2.1; simpa using this
          by_cases hlt : k2 < k
          · have hltz : (k2 : Int) < (k : Int) := by omega
            obtain ⟨hl, h3, h4⟩ := HT.out
            obtain ⟨b0, o0, rfl, hb0, hc0⟩ := h3 (by omega)
            have q0 := (hB2.cell (p := ⟨b0, o0 + k2, none⟩) hb0).trans (hc0 k2 hlt)
            obtain ⟨sa, sn, sc, eV, hBL, hNS⟩ := (h4 k2 hlt)
            rw [eV] at q0
            have hsn : sn ≤ 1024 := by rw [← hBL.1]; exact A.out k2 hlt
            cases sa with
            | none =>
              obtain ⟨rfl, rfl⟩ := hNS rfl
              have hnil : req.getD k2 [] = [] := List.length_eq_zero_iff.1 hBL.1
              have HV3 : Hid (∀ i, i < k → SV w2 (vs.getD i undef) (if i < k2 + 1 then req.getD i [] else [])) := fun i hi => by
                have := HV2.out i hi
                by_cases e : i = k2
                · subst e
                  rw [if_neg (by omega)] at this
                  rw [if_pos (by omega), hnil]
                  exact this
                · by_cases e2 : i < k2
                  · rw [if_pos e2] at this; rw [if_pos (by omega)]; exact this
                  · rw [if_neg e2] at this; rw [if_neg (by omega)]; exact this
              clear h3 h4 hc0 hBL hNS eV hnil
              go_wp2
              go_roundw
              case rel => exact ⟨k2 + 1, vs, by omega, by go_num, ho2, HV3, hB2⟩
              case measure => simp [intOf]; omega
            | some ad =>
              have hmk := make31 sn hsn
              have HBL : Hid (BL w (some ad) sn (req.getD k2 [])) := hBL
              have hOr := made_owns w2 w2.heap.size sn 22 (Nat.le_refl _) hsn
              have hB3 : Below w2.heap.size w2 (w2.alloc (.cells (setrow sn) 22)) := (Below.refl _ _).alloc (Nat.le_refl _) _
              clear h3 h4 hc0 hBL hNS eV
              go_wp2
              clear hmk
              go_loopw [62] (fun s62 wr => ∃ (k3 : Nat) (rs : List Value), k3 ≤ sn ∧ s62 = .int .i64 k3 ∧ wr.ownsRow w2.heap.size 22 1 (.slice (some ⟨w2.heap.size, 0, none⟩) sn sn) sn rs ∧ Hid (∀ j, j < k3 → MS wr (rs.getD j undef) ((req.getD k2 []).getD j 0)) ∧ Below w2.heap.size w2 wr) (fun s62 _ => sn - (intOf s62).toNat)
              case atStart => exact ⟨0, _, Nat.zero_le _, rfl, hOr, fun j hj => absurd hj (by omega), hB3⟩
              case round =>
                rename World => w3
                clear hOr hB3
                obtain ⟨k3, rs, hk3, rfl, ho3, HM3, hB3⟩ := hrel
                have hrl : rs.length = sn := by have := ho3.1; simpa using this
                by_cases hlt3 : k3 < sn
                · have hlt3z : (k3 : Int) < (sn : Int) := by omega
                  obtain ⟨l3, x3, c3⟩ := HBL.out.later (hB2.trans (hB3.mono hB2.size))
                  obtain ⟨sb, so, e3, hsb, hcs⟩ := c3 (by omega)
                  cases e3
                  have q3 := hcs k3 hlt3
                  have hm : (req.getD k2 []).getD k3 0 < 256 := x3 _ (getD_mem _ _ (by omega))
                  obtain ⟨m, hmE⟩ : ∃ m, (req.getD k2 []).getD k3 0 = m := ⟨_, rfl⟩
                  rw [hmE] at q3 hm
                  have HG : Hid ((req.getD k2 []).getD k3 0 = m) := hmE
                  have HCS := cset_any m hm w3
                  obtain ⟨hT3, hg3, hc3⟩ := owns_typ ho3
                  have hsz3 := hT3.lt
                  have HO3 : Hid (w3.ownsRow w2.heap.size 22 1 (.slice (some ⟨w2.heap.size, 0, none⟩) sn sn) sn rs) := ho3
                  clear hcs c3 x3 ho3 hc3 hmE hT3 hg3
                  go_wp2_with (first
                    | (go_at_call 8; refine HCS.mono ?_; rintro e w4 ⟨v4, rfl, ⟨ma, mn, mc, rfl, hms4⟩, hb4⟩; obtain ⟨old, hc4, hf4⟩ := old_cell (owns_kt HO3.out (KT.below (S := [22]) hb4) (by decide)) k3 hlt3)
                    | go_in)
                  have hms5 : MS w4 (.slice ma mn mc) m := ⟨ma, mn, mc, rfl, hms4⟩
                  have ho4 := owns_kt HO3.out (KT.below (S := [22]) hb4) (by decide)
                  obtain ⟨hT4, hg4, -⟩ := owns_typ ho4
                  have hkt : KT [9] w4 (w4.setCell ⟨w2.heap.size, k3, none⟩ (.slice ma mn mc)) := kt_set hT4 [9] (by decide) _
                  refine ⟨⟨k3 + 1, rs.set k3 (.slice ma mn mc), by omega, by go_num, owns_set ho4 k3 _, fun j hj => ?_, (hB3.trans (hb4.mono hB3.size)).setCell (p := ⟨w2.heap.size, k3, none⟩) (Nat.le_refl _) _⟩, by simp [intOf]; omega⟩
                  rw [set_getD _ _ _ _ (by omega)]
                  by_cases e : j = k3
                  · subst e
                    rw [if_pos rfl, HG.out]
                    exact hms5.kt hkt (by decide)
                  · rw [if_neg e]
                    exact ((HM3.out j (by omega)).later hb4).kt hkt (by decide)
                · have hlt3z : ¬ (k3 : Int) < (sn : Int) := by omega
                  obtain rfl : k3 = sn := by omega
                  have ho2' := owns_kt ho2 (KT.below (S := [31]) hB3) (by decide)
                  obtain ⟨old, hc4, hf4⟩ := old_cell ho2' k2 hlt
                  obtain ⟨hT3, hg3, hc3⟩ := owns_typ ho3
                  have HSV3 : Hid (SV w3 (.slice (some ⟨w2.heap.size, 0, none⟩) k3 k3) (req.getD k2 [])) := ⟨_, _, _, fun j => rs.getD j undef, rfl, ⟨HBL.out.1, by omega, fun _ => ⟨w2.heap.size, 0, rfl, hT3, fun i hi => by rw [Nat.zero_add]; exact (hc3 i hi).1⟩, HM3.out⟩, (fun h => by cases h), (fun ad h => by cases h; exact ⟨_, _, rfl⟩)⟩
                  clear ho3 hT3 hg3 hc3
                  go_wp2
                  obtain ⟨hT2, hg2, -⟩ := owns_typ ho2'
                  have hkt : KT [9, 22] w3 (w3.setCell ⟨w.heap.size, k2, none⟩ (.slice (some ⟨w2.heap.size, 0, none⟩) k3 k3)) := kt_set hT2 [9, 22] (by decide) _
                  have hB5 : Below w.heap.size w w3 := hB2.trans (hB3.mono hB2.size)
                  refine ⟨⟨k2 + 1, vs.set k2 (.slice (some ⟨w2.heap.size, 0, none⟩) k3 k3), by omega, by go_num, owns_set ho2' k2 _, fun i hi => ?_, hB5.setCell (p := ⟨w.heap.size, k2, none⟩) (Nat.le_refl _) _⟩, by simp [intOf]; omega⟩
                  rw [set_getD _ _ _ _ (by omega)]
                  by_cases e : i = k2
                  · subst e
                    rw [if_pos rfl, if_pos (by omega)]
                    exact HSV3.out.kt hkt (by decide) (by decide)
                  · rw [if_neg e]
                    have := ((HV2.out i hi).later hB3).kt hkt (by decide) (by decide)
                    by_cases e2 : i < k2
                    · rw [if_pos e2] at this; rw [if_pos (by omega)]; exact this
                    · rw [if_neg e2] at this; rw [if_neg (by omega)]; exact this
          · have hltz : ¬ (k2 : Int) < (k : Int) := by omega
            obtain rfl : k2 = k := by omega
            obtain ⟨hT2, hg2, hc2⟩ := owns_typ ho2
            have HTS : Hid (TS w2 (some ⟨w.heap.size, 0, none⟩) k2 (fun i => vs.getD i undef) req) := ⟨HT.out.1, by omega, fun _ => ⟨w.heap.size, 0, rfl, hT2, fun i hi => by rw [Nat.zero_add]; exact (hc2 i hi).1⟩, fun i hi => by have := HV2.out i hi; rwa [if_pos hi] at this⟩
            have hwm : IntKind.i64.wrap (bud * 16) = bud * 16 := by simp [IntKind.wrap, IntKind.bits, IntKind.signed]; omega
            have hwc : IntKind.i64.wrap bud = bud := by simp [IntKind.wrap, IntKind.bits, IntKind.signed]; omega
            clear hc2 ho2 HV2 hOw H0 he
            go_upto_region 24 with fail
            have hB3 : Below w.heap.size w (w2.alloc (.cells #[.int .i64 (bud * 16)] 3)) := hB2.alloc hB2.size _
            have hbox : (w2.alloc (.cells #[.int .i64 (bud * 16)] 3)).heap[w2.heap.size]? = some (.cells #[.int .i64 (bud * 16)] 3 (0, 0)) := heap_alloc_new w2 _
            have hTS3 := HTS.out.later ((Below.refl _ _).alloc (Nat.le_refl _) (.cells #[.int .i64 (bud * 16)] 3))
            have hbw : w.heap.size ≤ w2.heap.size := hB2.size
            have C9 := combine_any F _ (by rw [hB3.tape]; exact hF) _ k2 k2 _ req hTS3 hn HRQ.out w2.heap.size (bud * 16) hbox (by omega) (by omega)
            have M10 : ∀ W, Below w.heap.size w W → Calls Ybaf.prog 10 #[.slice a k2 c, .int .i64 (bud * 16)] W fun e w' => e = .returned (.tuple #[.agg (seenL ((run req (bud * 16)).2.getD [])).toArray, .int .i64 (run req (bud * 16)).1, .bool (run req (bud * 16)).2.isSome]) ∧ Below W.heap.size W w' := fun W hW =>
              model_any W a k2 c V req (HT.out.later hW) hn HRQ.out (bud * 16) (by omega) (by omega)
            have HT3 : Hid (TS (w2.alloc (.cells #[.int .i64 (bud * 16)] 3)) (some ⟨w.heap.size, 0, none⟩) k2 (fun i => vs.getD i undef) req) := hTS3
            have hTy3 : Typ (w2.alloc (.cells #[.int .i64 (bud * 16)] 3)) w2.heap.size 3 := ⟨_, _, hbox⟩
            obtain ⟨Z0, hZ0⟩ : ∃ Z0, (seenL []).toArray = Z0 := ⟨_, rfl⟩
            have hz38 : ∀ w, (zeroValue 38).run Ybaf.prog w = .ok (.agg Z0) w := fun w => by rw [← hZ0]; exact zero38 w
            have HZ0 : Hid ((seenL []).toArray = Z0) := hZ0
            clear hZ0
            clear hTS3 hbox hT2 hg2 HTS hB2
            generalize w2.alloc (.cells #[.int .i64 (bud * 16)] 3) = w3 at *
            obtain ⟨r1, r2⟩ : ∃ r, run req (bud * 16) = r := ⟨_, rfl⟩
            rw [r2] at C9 M10
            obtain ⟨r1, ro⟩ := r1
            clear r2
            have hbb3 : w2.heap.size < w3.heap.size := hTy3.lt
            cases ro with
            | none =>
              have C9n : Calls Ybaf.prog 9 #[.slice (some ⟨w.heap.size, 0, none⟩) k2 k2, .pointer (some ⟨w2.heap.size, 0, none⟩)] w3 fun e w4 => ∃ p, e = .returned (.tuple #[.slice none 0 0, .iface 114 (.pointer p)]) ∧ Bud w2.heap.size r1 w3 w4 := C9.mono fun e w' hh => by
                obtain ⟨hh, hb⟩ := hh
                rcases hh with ⟨v, ms, us, h1, _⟩ | ⟨_, p, h2⟩
                · cases h1
                · exact ⟨p, h2, hb⟩
              have M10n : ∀ W, Below w.heap.size w W → Calls Ybaf.prog 10 #[.slice a k2 c, .int .i64 (bud * 16)] W fun e w' => e = .returned (.tuple #[.agg Z0, .int .i64 r1, .bool false]) ∧ Below W.heap.size W w' := fun W hW => by
                rw [← HZ0.out]; exact M10 W hW
              have hoz := oneZ HZ0.out
              have hiz := infoZ HZ0.out
              clear C9 M10
              go_upto_region 26 with (first
                | (go_at_call 9; refine C9n.mono ?_; rintro e w4 ⟨p, rfl, hBud4⟩; have hB4 : Below w.heap.size w w4 := bud_below hB3 hBud4 hbw)
                | (go_at_call 10; refine (M10n w4 hB4).mono ?_; rintro e w5 ⟨rfl, hB5⟩; have hth := thereNew HZ0.out HZ0.out w5)
                | (refine wpList_store_mid rfl 38 (.tmp 17) (.tmp 91) rfl w5.heap.size 0 Z0 rfl rfl hth hiz hoz ?_)
                | go_in)
              have hB6 : Below w5.heap.size w5 ((w5.alloc (.cells Z0 38)).setCells w5.heap.size 0 Z0.toList) := below_setCells (Nat.le_refl _) _ _ _ _ ((Below.refl _ _).alloc (Nat.le_refl _) _)
              have hBud5 := hBud4.below hB5 hBud4.size (Nat.lt_of_lt_of_le hbb3 hBud4.size)
              have hBud6 := hBud5.below hB6 hBud5.size (Nat.lt_of_lt_of_le hbb3 hBud5.size)
              have hBw6 := bud_below hB3 hBud6 hbw
              have hcb := hBud6.cell
              have HT6 : Hid (TS _ (some ⟨w.heap.size, 0, none⟩) k2 (fun i => vs.getD i undef) req) := HT3.out.kt (hBud6.kt hTy3 [9, 22, 31] (by decide)) (by decide) (by decide) (by decide)
              have HA6 : Hid (TB _ a k2 V req) := HT.out.later hBw6
              generalize (w5.alloc (.cells Z0 38)).setCells w5.heap.size 0 Z0.toList = w6 at *
              have hneq : (r1 != r1) = false := by simp
              clear hB3 hB4 hB5 hB6 hBud4 hBud5 hBud6 hth hz38 hoz hiz
              go_wp2
              go_loop [99] (fun s99 => ∃ k4 : Nat, k4 ≤ k2 ∧ s99 = .int .i64 k4) (fun s99 => k2 - (intOf s99).toNat)
              case atStart => exact ⟨0, Nat.zero_le _, rfl⟩
              case round =>
                obtain ⟨k4, hk4, rfl⟩ := hrel
                by_cases hlt4 : k4 < k2
                · have hlt4z : (k4 : Int) < (k2 : Int) := by omega
                  obtain ⟨-, h36, h46⟩ := HA6.out
                  obtain ⟨b0, o0, rfl, hb0, hc0⟩ := h36 (by omega)
                  have q0 := hc0 k4 hlt4
                  obtain ⟨sa, sn, sc, eV, hBL, hNS⟩ := h46 k4 hlt4
                  rw [eV] at q0
                  obtain ⟨-, -, c6, s6⟩ := HT6.out
                  obtain ⟨rb, ro', er, hTr, hcr⟩ := c6 (by omega)
                  cases er
                  have q1 := hcr k4 hlt4
                  obtain ⟨ra, rn, rc, RV, eR, hSS, hNR⟩ := s6 k4 hlt4
                  rw [Nat.zero_add, eR] at q1
                  obtain rfl : rn = sn := hSS.1.symm.trans hBL.1
                  have hnn : ((rn : Int) != (rn : Int)) = false := by simp
                  have HBL6 : Hid (BL w6 sa rn (req.getD k4 [])) := hBL
                  have HSS6 : Hid (SS w6 ra rn RV (req.getD k4 [])) := hSS
                  have hrn : rn ≤ 1048576 := hSS.2.1
                  clear h36 h46 hc0 eV hBL hNS c6 s6 hcr eR hSS hNR
                  go_wp2
                  go_loop [114] (fun s114 => ∃ k5 : Nat, k5 ≤ rn ∧ s114 = .int .i64 k5) (fun s114 => rn - (intOf s114).toNat)
                  case atStart => exact ⟨0, Nat.zero_le _, rfl⟩
                  case round =>
                    obtain ⟨k5, hk5, rfl⟩ := hrel
                    by_cases hlt5 : k5 < rn
                    · have hlt5z : (k5 : Int) < (rn : Int) := by omega
                      obtain ⟨-, -, c7⟩ := HBL6.out
                      obtain ⟨sb, so, rfl, -, hcs⟩ := c7 (by omega)
                      have q2 := hcs k5 hlt5
                      obtain ⟨-, -, c8, s8⟩ := HSS6.out
                      obtain ⟨tb, tof, rfl, -, hct⟩ := c8 (by omega)
                      have q3 := hct k5 hlt5
                      have CM := cmask_any _ _ w6 (s8 k5 hlt5)
                      clear hcs hct c7 c8 s8
                      generalize (req.getD k4 []).getD k5 0 = m at *
                      generalize RV k5 = v5 at *
                      have hmm : ((m : Int) != (m : Int)) = false := by simp
                      go_wp2_with (go_at_call 11; refine CM.mono ?_; rintro e w7 ⟨rfl, rfl⟩)
                      go_round
                      case rel => exact ⟨k5 + 1, by omega, by go_num⟩
                      case measure => simp [intOf]; omega
                    · have hlt5z : ¬ (k5 : Int) < (rn : Int) := by omega
                      go_wp2
                      go_round
                      case rel => exact ⟨k4 + 1, by omega, by go_num⟩
                      case measure => simp [intOf]; omega
                · have hlt4z : ¬ (k4 : Int) < (k2 : Int) := by omega
                  have he31 := fun a n c w => Lib.run_eql_slice_nil (P := Ybaf.prog) w 31 22 a n c 0 0 Ybaf.underlying31
                  go_wp2
                  go_ret
                  exact ⟨rfl, hBw6⟩
            | some us =>
              obtain ⟨Z, hZ⟩ : ∃ Z, (seenL us).toArray = Z := ⟨_, rfl⟩
              have HZ : Hid ((seenL us).toArray = Z) := hZ
              clear hZ
              have C9n : Calls Ybaf.prog 9 #[.slice (some ⟨w.heap.size, 0, none⟩) k2 k2, .pointer (some ⟨w2.heap.size, 0, none⟩)] w3 fun e w4 => ∃ a5 n5 c5 V5 ms, e = .returned (.tuple #[.slice a5 n5 c5, .nilIface]) ∧ Hid (SS w4 a5 n5 V5 ms ∧ ms.Pairwise (fun a b => mcmp a b < 0) ∧ ∀ x, x ∈ ms ↔ x ∈ us) ∧ Bud w2.heap.size r1 w3 w4 := C9.mono fun e w' hh => by
                obtain ⟨hh, hb⟩ := hh
                rcases hh with ⟨v, ms, us', h1, h2, ⟨a5, n5, c5, V5, e5, hs5, -⟩, h4, h5⟩ | ⟨h1, _⟩
                · cases h1
                  subst e5
                  exact ⟨a5, n5, c5, V5, ms, h2, ⟨hs5, h4, h5⟩, hb⟩
                · cases h1
              have M10n : ∀ W, Below w.heap.size w W → Calls Ybaf.prog 10 #[.slice a k2 c, .int .i64 (bud * 16)] W fun e w' => e = .returned (.tuple #[.agg Z, .int .i64 r1, .bool true]) ∧ Below W.heap.size W w' := fun W hW => by
                rw [← HZ.out]; exact M10 W hW
              have hoz := oneZ HZ.out
              have hiz := infoZ HZ.out
              clear C9 M10
              go_upto_region 26 with (first
                | (go_at_call 9; refine C9n.mono ?_; rintro e w4 ⟨a5, n5, c5, V5, ms, rfl, HSS4, hBud4⟩; have hB4 : Below w.heap.size w w4 := bud_below hB3 hBud4 hbw)
                | (go_at_call 10; refine (M10n w4 hB4).mono ?_; rintro e w5 ⟨rfl, hB5⟩; have hth := thereNew HZ0.out HZ.out w5)
                | (refine wpList_store_mid rfl 38 (.tmp 17) (.tmp 91) rfl w5.heap.size 0 Z rfl rfl hth hiz hoz ?_)
                | go_in)
              have hB6 : Below w5.heap.size w5 ((w5.alloc (.cells Z0 38)).setCells w5.heap.size 0 Z.toList) := below_setCells (Nat.le_refl _) _ _ _ _ ((Below.refl _ _).alloc (Nat.le_refl _) _)
              have hBud5 := hBud4.below hB5 hBud4.size (Nat.lt_of_lt_of_le hbb3 hBud4.size)
              have hBud6 := hBud5.below hB6 hBud5.size (Nat.lt_of_lt_of_le hbb3 hBud5.size)
              have hB46 := hB5.trans (hB6.mono hB5.size)
              have HS6 : Hid (SS _ a5 n5 V5 ms) := HSS4.out.1.later hB46
              have HPw : Hid (ms.Pairwise fun a b => mcmp a b < 0) := HSS4.out.2.1
              have HMem : Hid (∀ x, x ∈ ms ↔ x ∈ us) := HSS4.out.2.2
              have HCe : Hid (n5 = cntTo us 256) := by
                have h1 := HSS4.out.1
                have h2 := cnt_eq ms us HSS4.out.2.1 (fun x hx => by
                  obtain ⟨i, hi, e⟩ := List.getElem_of_mem hx
                  obtain ⟨_, _, _, _, _, _, h3⟩ := h1.2.2.2 i (by have := h1.1; omega)
                  rw [List.getD, List.getElem?_eq_getElem hi] at h3
                  simp only [Option.getD_some] at h3
                  omega) HSS4.out.2.2
                exact h1.1.symm.trans h2
              have HR6 : Hid (∀ i, i < 256 → ((w5.alloc (.cells Z0 38)).setCells w5.heap.size 0 Z.toList).cell? ⟨w5.heap.size, i, none⟩ = some (.bool (decide (i ∈ us)))) := fun i hi => by
                have := rangeZ HZ0.out HZ.out w5 i _ (seenL_get us i hi)
                rwa [Nat.zero_add] at this
              have hn5 : n5 ≤ 1048576 := HSS4.out.1.2.1
              have hBw6 := bud_below hB3 hBud6 hbw
              have hcb := hBud6.cell
              have HT6 : Hid (TS _ (some ⟨w.heap.size, 0, none⟩) k2 (fun i => vs.getD i undef) req) := HT3.out.kt (hBud6.kt hTy3 [9, 22, 31] (by decide)) (by decide) (by decide) (by decide)
              have HA6 : Hid (TB _ a k2 V req) := HT.out.later hBw6
              clear HSS4 hB46 HZ
              generalize (w5.alloc (.cells Z0 38)).setCells w5.heap.size 0 Z.toList = w6 at *
              have hneq : (r1 != r1) = false := by simp
              clear hB3 hB4 hB5 hB6 hBud4 hBud5 hBud6 hth hz38 hoz hiz
              go_wp2
              go_loop [99] (fun s99 => ∃ k4 : Nat, k4 ≤ k2 ∧ s99 = .int .i64 k4) (fun s99 => k2 - (intOf s99).toNat)
              case atStart => exact ⟨0, Nat.zero_le _, rfl⟩
              case round =>
                obtain ⟨k4, hk4, rfl⟩ := hrel
                by_cases hlt4 : k4 < k2
                · have hlt4z : (k4 : Int) < (k2 : Int) := by omega
                  obtain ⟨-, h36, h46⟩ := HA6.out
                  obtain ⟨b0, o0, rfl, hb0, hc0⟩ := h36 (by omega)
                  have q0 := hc0 k4 hlt4
                  obtain ⟨sa, sn, sc, eV, hBL, hNS⟩ := h46 k4 hlt4
                  rw [eV] at q0
                  obtain ⟨-, -, c6, s6⟩ := HT6.out
                  obtain ⟨rb, ro', er, hTr, hcr⟩ := c6 (by omega)
                  cases er
                  have q1 := hcr k4 hlt4
                  obtain ⟨ra, rn, rc, RV, eR, hSS, hNR⟩ := s6 k4 hlt4
                  rw [Nat.zero_add, eR] at q1
                  obtain rfl : rn = sn := hSS.1.symm.trans hBL.1
                  have hnn : ((rn : Int) != (rn : Int)) = false := by simp
                  have HBL6 : Hid (BL w6 sa rn (req.getD k4 [])) := hBL
                  have HSS6 : Hid (SS w6 ra rn RV (req.getD k4 [])) := hSS
                  have hrn : rn ≤ 1048576 := hSS.2.1
                  clear h36 h46 hc0 eV hBL hNS c6 s6 hcr eR hSS hNR
                  go_wp2
                  go_loop [114] (fun s114 => ∃ k5 : Nat, k5 ≤ rn ∧ s114 = .int .i64 k5) (fun s114 => rn - (intOf s114).toNat)
                  case atStart => exact ⟨0, Nat.zero_le _, rfl⟩
                  case round =>
                    obtain ⟨k5, hk5, rfl⟩ := hrel
                    by_cases hlt5 : k5 < rn
                    · have hlt5z : (k5 : Int) < (rn : Int) := by omega
                      obtain ⟨-, -, c7⟩ := HBL6.out
                      obtain ⟨sb, so, rfl, -, hcs⟩ := c7 (by omega)
                      have q2 := hcs k5 hlt5
                      obtain ⟨-, -, c8, s8⟩ := HSS6.out
                      obtain ⟨tb, tof, rfl, -, hct⟩ := c8 (by omega)
                      have q3 := hct k5 hlt5
                      have CM := cmask_any _ _ w6 (s8 k5 hlt5)
                      clear hcs hct c7 c8 s8
                      generalize (req.getD k4 []).getD k5 0 = m at *
                      generalize RV k5 = v5 at *
                      have hmm : ((m : Int) != (m : Int)) = false := by simp
                      go_wp2_with (go_at_call 11; refine CM.mono ?_; rintro e w7 ⟨rfl, rfl⟩)
                      go_round
                      case rel => exact ⟨k5 + 1, by omega, by go_num⟩
                      case measure => simp [intOf]; omega
                    · have hlt5z : ¬ (k5 : Int) < (rn : Int) := by omega
                      go_wp2
                      go_round
                      case rel => exact ⟨k4 + 1, by omega, by go_num⟩
                      case measure => simp [intOf]; omega
                · have hlt4z : ¬ (k4 : Int) < (k2 : Int) := by omega
                  go_wp2
                  go_loop [26, 27] (fun s26 s27 => ∃ k6 : Nat, k6 ≤ 256 ∧ s27 = .int .i64 k6 ∧ s26 = .int .i64 (cntTo us k6 : Nat)) (fun _ s27 => 256 - (intOf s27).toNat)
                  case atStart => exact ⟨0, by omega, rfl, rfl⟩
                  case round =>
                    obtain ⟨k6, hk6, rfl, rfl⟩ := hrel
                    have hcle := cntTo_le us k6
                    by_cases hlt6 : k6 < 256
                    · have hlt6z : (k6 : Int) < 256 := by omega
                      have qs := HR6.out k6 hlt6
                      have HCn : Hid (cntTo us (k6 + 1) = cntTo us k6 + if k6 ∈ us then 1 else 0) := cntTo_succ us k6
                      by_cases hin : k6 ∈ us
                      · rw [decide_eq_true hin] at qs
                        have HC2 : Hid (cntTo us (k6 + 1) = cntTo us k6 + 1) := by have := HCn.out; rw [if_pos hin] at this; exact this
                        clear hin HCn
                        generalize cntTo us k6 = cc at *
                        go_wp2
                        go_round
                        case rel => exact ⟨k6 + 1, by omega, by go_num, by rw [HC2.out]; go_num⟩
                        case measure => simp [intOf]; omega
                      · rw [decide_eq_false hin] at qs
                        have HC2 : Hid (cntTo us (k6 + 1) = cntTo us k6) := by have := HCn.out; rw [if_neg hin] at this; exact this
                        clear hin HCn
                        generalize cntTo us k6 = cc at *
                        go_wp2
                        go_round
                        case rel => exact ⟨k6 + 1, by omega, by go_num, by rw [HC2.out]⟩
                        case measure => simp [intOf]; omega
                    · have hlt6z : ¬ (k6 : Int) < 256 := by omega
                      obtain rfl : k6 = 256 := by omega
                      have hce : ((n5 : Int) != (cntTo us 256 : Nat)) = false := by rw [HCe.out]; simp
                      generalize cntTo us 256 = cc at *
                      go_wp2
                      go_loop [164] (fun s164 => ∃ k7 : Nat, k7 ≤ n5 ∧ s164 = .int .i64 k7) (fun s164 => n5 - (intOf s164).toNat)
                      case atStart => exact ⟨0, Nat.zero_le _, rfl⟩
                      case round =>
                        obtain ⟨k7, hk7, rfl⟩ := hrel
                        by_cases hlt7 : k7 < n5
                        · have hlt7z : (k7 : Int) < (n5 : Int) := by omega
                          obtain ⟨lm, lb, c9, s9⟩ := HS6.out
                          obtain ⟨gb, gof, rfl, -, hcg⟩ := c9 (by omega)
                          have q5 := hcg k7 hlt7
                          obtain ⟨ya, yn, yc, eY, hsy, -, hmy⟩ := s9 k7 hlt7
                          have CM := cmask_any _ _ w6 (s9 k7 hlt7)
                          have hus : ms.getD k7 0 ∈ us := (HMem.out _).1 (getD_mem _ _ (by omega))
                          have qs := HR6.out _ hmy
                          rw [decide_eq_true hus] at qs
                          rw [eY] at q5 CM
                          have hmz : ((ms.getD k7 0 : Nat) : Int) < 256 := by omega
                          by_cases h0 : k7 = 0
                          · have h0z : decide ((0 : Int) < (k7 : Int)) = false := decide_eq_false (by omega)
                            have h0n : ¬ 0 < k7 := by omega
                            have h0p : ¬ (0 : Int) < (k7 : Int) := by omega
                            have h0w : ((k7 : Int) > 0) = False := by simp; omega
                            clear hcg c9 s9 hus eY hsy h0
                            generalize ms.getD k7 0 = m at *
                            go_wp2_with (go_at_call 11; refine CM.mono ?_; rintro e w7 ⟨rfl, rfl⟩)
                            go_round
                            case rel => exact ⟨k7 + 1, by omega, by go_num⟩
                            case measure => simp [intOf]; omega
                          · have h0z : (0 : Int) < (k7 : Int) := by omega
                            have hk1z : ((k7 - 1 : Nat) : Int) < (n5 : Int) := by omega
                            have hw1 : IntKind.i64.wrap ((k7 : Int) - 1) = ((k7 - 1 : Nat) : Int) := by simp [IntKind.wrap, IntKind.bits, IntKind.signed]; omega
                            have q6 := hcg (k7 - 1) (by omega)
                            obtain ⟨xa, xn, xc, eX, hsx, -, -⟩ := s9 (k7 - 1) (by omega)
                            rw [eX] at q6
                            have CC := compare_any xa xn xc _ ya yn yc _ w6 hsx hsy
                            have hlt' : cmpI (plc (ms.getD (k7 - 1) 0)) (plc (ms.getD k7 0)) < 0 := by
                              have := List.pairwise_iff_getElem.1 HPw.out (k7 - 1) k7 (by omega) (by omega) (by omega)
                              rw [List.getD, List.getD, List.getElem?_eq_getElem (by omega), List.getElem?_eq_getElem (by omega)]
                              exact this
                            have hcd : decide ((0 : Int) ≤ cmpI (plc (ms.getD (k7 - 1) 0)) (plc (ms.getD k7 0))) = false := decide_eq_false (by omega)
                            clear hcg c9 s9 hus eY eX hsy hsx
                            generalize cmpI (plc (ms.getD (k7 - 1) 0)) (plc (ms.getD k7 0)) = cr at *
                            generalize ms.getD k7 0 = m at *
                            go_wp2_with (first
                              | (go_at_call 11; refine CM.mono ?_; rintro e w7 ⟨rfl, rfl⟩)
                              | (go_at_call 12; refine CC.mono ?_; rintro e w7 ⟨rfl, rfl⟩))
                            go_round
                            case rel => exact ⟨k7 + 1, by omega, by go_num⟩
                            case measure => simp [intOf]; omega
                        · have hlt7z : ¬ (k7 : Int) < (n5 : Int) := by omega
                          go_wp2
                          go_ret
                          exact ⟨rfl, hBw6⟩
end Go.Proofs.YbulkcfrwFmt.Walks
