/- Seat b4091a: the walk of LawS4091ASubset. -/
import Derived.Test.YbulkcfrwHolds
import Derived.Deep.DeepCutAuto
namespace Go.Proofs.Ybulkcfrw.lawS4091ASubset
open Go.RowKit Plain Walks

/-- what a row of strings of the call's own is, in the seat's words -/
theorem owns_SL {w : World} {base : Nat} {e : TypeId} {v : Value} {n : Nat} {ss : List ByteArray} (h : w.ownsRow base e 1 v n (ss.map Value.string)) :
    ∃ a c, v = .slice a n c ∧ SL w a n ss ∧ (a = none → n = 0 ∧ c = 0) := by
  have hl : ss.length = n := by have := h.1; simpa using this
  rcases h.2 with ⟨rfl, rfl⟩ | ⟨g, cap, cur, rfl, hbase, hb, h1, h2, h3, h4⟩
  · exact ⟨none, 0, rfl, ⟨hl, by omega, fun h => by omega⟩, fun _ => ⟨rfl, rfl⟩⟩
  · unfold maxLen at h2
    refine ⟨_, _, rfl, ⟨hl, by omega, fun hn => ⟨g, 0, rfl, (Array.getElem?_eq_some_iff.1 hb).1, fun i hi => ?_⟩⟩, fun h => by cases h⟩
    have := h.cellAt i (by omega)
    rw [Nat.zero_add, this]
    simp [List.getD, List.getElem?_eq_getElem (show i < ss.length by omega)]

theorem owns_row {w : World} {base : Nat} {e : TypeId} {v : Value} {n : Nat} {vs : List Value} (h : w.ownsRow base e 1 v n vs) :
    ∃ a c, v = .slice a n c ∧ vs.length = n ∧ n ≤ 9223372036854775807 ∧ (0 < n → ∃ b off, a = some ⟨b, off, none⟩ ∧ b < w.heap.size ∧ ∀ i, i < n → w.cell? ⟨b, off + i, none⟩ = some (vs.getD i undef)) ∧ (a = none → n = 0 ∧ c = 0) := by
  have hl : vs.length = n := by have := h.1; simpa using this
  rcases h.2 with ⟨rfl, rfl⟩ | ⟨g, cap, cur, rfl, hbase, hb, h1, h2, h3, h4⟩
  · exact ⟨none, 0, rfl, hl, by omega, fun h => by omega, fun _ => ⟨rfl, rfl⟩⟩
  · unfold maxLen at h2
    refine ⟨_, _, rfl, hl, by omega, fun hn => ⟨g, 0, rfl, (Array.getElem?_eq_some_iff.1 hb).1, fun i hi => ?_⟩, fun h => by cases h⟩
    have := h.cellAt i (by omega)
    rw [Nat.zero_add, this]
    simp [List.getD, List.getElem?_eq_getElem (show i < vs.length by omega)]

/-- one append of one element laid in a block of its own -/
theorem appended {e : TypeId} {w wr w1 : World} {v : Value} {k : Nat} {xs : List Value} {o : Obj} (hown : wr.ownsRow w.heap.size e 1 v k xs) (hbr : Below w.heap.size w wr)
    (hgrow : (wr.alloc o).grownBy w1 v.ownBlock) : Below w.heap.size w w1 := by
  refine (hbr.alloc hbr.size o).grown hgrow (Nat.le_trans hbr.size (by simp)) (fun j hj => ?_)
  rcases hown.2 with ⟨rfl, _⟩ | ⟨g, cap, cur, rfl, hbase, _⟩
  · cases hj
  · simp [Value.ownBlock] at hj
    omega

theorem info9 : (Yba.prog.info? 9).map (fun i => (i.zero, i.size, i.bytes)) = some (some (.string ByteArray.empty), 1, 16) := by kernel_rfl
theorem info22 : (Yba.prog.info? 22).map (fun i => (i.zero, i.size, i.bytes)) = some (some (.slice none 0 0), 1, 24) := by kernel_rfl

theorem holds_sub {cv : List ByteArray} {cs : List (List ByteArray)} {dv : List ByteArray} {ds : List (List ByteArray)} (h1 : ∀ x ∈ dv, x ∈ cv) (h2 : ∀ x ∈ ds, x ∈ cs) : holds cv cs dv ds = true := by
  have e1 : (dv.all fun v => hasv cv v) = true := List.all_eq_true.2 fun x hx => (hasv_iff _ _).2 (h1 x hx)
  have e2 : (ds.all fun s => hass cs s) = true := List.all_eq_true.2 fun x hx => (hass_iff _ _).2 (h2 x hx)
  simp only [holds, e1, e2, Bool.and_self]
theorem holds_novalue {cv : List ByteArray} {cs : List (List ByteArray)} {dv : List ByteArray} {ds : List (List ByteArray)} {x : ByteArray} (h : x ∉ cv) : holds cv cs (dv ++ [x]) ds = false := by
  have e1 : ((dv ++ [x]).all fun v => hasv cv v) = false := List.all_eq_false.2 ⟨x, by simp, fun e => h ((hasv_iff _ _).1 e)⟩
  simp only [holds, e1, Bool.false_and]
theorem holds_noset {cv : List ByteArray} {cs : List (List ByteArray)} {dv : List ByteArray} {ds : List (List ByteArray)} {x : List ByteArray} (h : x ∉ cs) : holds cv cs dv (ds ++ [x]) = false := by
  have e1 : ((ds ++ [x]).all fun v => hass cs v) = false := List.all_eq_false.2 ⟨x, by simp, fun e => h ((hass_iff _ _).1 e)⟩
  simp only [holds, e1, Bool.and_false]

/-- what append asks of its source -/
theorem cells_SL {w : World} {a : Option Addr} {n : Nat} {ss : List ByteArray} (h : SL w a n ss) : ∀ ad, a = some ad → ∀ j u, (ss.map Value.string)[j]? = some u → w.cell? (ad.add j) = some u := by
  intro ad ha j u hu
  have hj : j < ss.length := by have := (List.getElem?_eq_some_iff.1 hu).1; simpa using this
  obtain ⟨b, off, e, _, hc⟩ := h.2.2 (by have := h.1; omega)
  rw [e] at ha
  cases ha
  rw [Addr.add_lit, hc j (by have := h.1; omega)]
  rw [List.getElem?_map, List.getElem?_eq_getElem hj] at hu
  simp at hu
  simp [List.getD, List.getElem?_eq_getElem hj, hu]
theorem one_strings (ss : List ByteArray) : ∀ u ∈ ss.map Value.string, u.oneCell' = true := by
  intro u hu
  obtain ⟨x, _, rfl⟩ := List.mem_map.1 hu
  rfl
theorem one_string (x : ByteArray) : ∀ u ∈ [Value.string x], u.oneCell' = true := by
  intro u hu; simp at hu; subst hu; rfl
theorem below_fits {B : Nat} {a w w' : World} {o : Obj} {g : Nat} (h : Below B a w) (hg : (w.alloc o).grownBy w' (some g)) (hB : B ≤ w.heap.size) (hr : B ≤ g) : Below B a w' :=
  (h.alloc hB o).grown hg (by simp; omega) (fun k hk => by cases hk; exact hr)

theorem cells_SS {w : World} {a : Option Addr} {n : Nat} {V : Nat → Value} {xs : List (List ByteArray)} (h : SS w a n V xs) : ∀ ad, a = some ad → ∀ j u, ((List.range n).map V)[j]? = some u → w.cell? (ad.add j) = some u := by
  intro ad ha j u hu
  have hj : j < n := by have := (List.getElem?_eq_some_iff.1 hu).1; simpa using this
  obtain ⟨b, off, e, _, hc⟩ := h.2.2.1 (by omega)
  rw [e] at ha
  cases ha
  rw [Addr.add_lit, hc j hj]
  simpa [hj] using hu
theorem one_sets {w : World} {a : Option Addr} {n : Nat} {V : Nat → Value} {xs : List (List ByteArray)} (h : SS w a n V xs) : ∀ u ∈ (List.range n).map V, u.oneCell' = true := by
  intro u hu
  obtain ⟨i, hi, rfl⟩ := List.mem_map.1 hu
  obtain ⟨a, n, c, e, _⟩ := h.2.2.2 i (by simpa using hi)
  rw [e]; rfl
theorem one_slice (a : Option Addr) (n c : Nat) : ∀ u ∈ [Value.slice a n c], u.oneCell' = true := by
  intro u hu; simp at hu; subst hu; rfl

/-- The rows that make lays. -/
def strow (n : Nat) : Array Value := madeCells #[.string ByteArray.empty] n
def setrow (n : Nat) : Array Value := madeCells #[.slice none 0 0] n
theorem strow_size (n : Nat) : (strow n).size = n * 1 := by rw [Nat.mul_one]; exact size_madeCells _ _
theorem setrow_size (n : Nat) : (setrow n).size = n * 1 := by rw [Nat.mul_one]; exact size_madeCells _ _
theorem make22 (l n : Nat) (hl : l ≤ n) (hn : n ≤ 17592186044416) (w : World) : (Instr.makeSlice 22 (.int .i64 l) (.int .i64 n)).run Yba.prog w = .ok (.slice (some ⟨w.heap.size, 0, none⟩) l n) (w.alloc (.cells (strow n) 9)) := by
  obtain ⟨i, hi, hz, hs, hb⟩ := info_parts info9
  have h := run_make (P := Yba.prog) w 22 9 i _ Yba.underlying22 hi hz .i64 .i64 l n (by omega) (by omega) (by rw [hb]; omega) (by omega)
  rw [hs] at h
  simpa [strow, Value.cells] using h
theorem make23 (l n : Nat) (hl : l ≤ n) (hn : n ≤ 1025) (w : World) : (Instr.makeSlice 23 (.int .i64 l) (.int .i64 n)).run Yba.prog w = .ok (.slice (some ⟨w.heap.size, 0, none⟩) l n) (w.alloc (.cells (setrow n) 22)) := by
  obtain ⟨i, hi, hz, hs, hb⟩ := info_parts info22
  have h := run_make (P := Yba.prog) w 23 22 i _ Yba.underlying23 hi hz .i64 .i64 l n (by omega) (by omega) (by rw [hb]; omega) (by omega)
  rw [hs] at h
  simpa [setrow, Value.cells] using h

/-- the new set: L + 1 empty strings -/
theorem made_SL (w : World) (n : Nat) (hn : n ≤ 17592186044416) : SL (w.alloc (.cells (strow n) 9)) (some ⟨w.heap.size, 0, none⟩) n (List.replicate n ByteArray.empty) := by
  refine ⟨by simp, by omega, fun _ => ⟨w.heap.size, 0, rfl, by simp, fun i hi => ?_⟩⟩
  rw [World.cell?_alloc_at _ _ _ _ rfl, Nat.zero_add]
  simp [strow, madeCells, List.getD, hi, Nat.mod_one]

/-- a slice of sets of the call's own, one set more -/
theorem SS_snoc {w W : World} {a : Option Addr} {n : Nat} {V : Nat → Value} {xs : List (List ByteArray)} {v s : Value} {ss : List ByteArray} {base : Nat} {e : TypeId} (h : SS w a n V xs) (hb : Below w.heap.size w W) (hs : SV W s ss)
    (hown : W.ownsRow base e 1 v (n + 1) ((List.range n).map V ++ [s])) : ∃ a' c', v = .slice a' (n + 1) c' ∧ SS W a' (n + 1) (fun i => ((List.range n).map V ++ [s]).getD i undef) (xs ++ [ss]) := by
  obtain ⟨a', c', hv, hl, hmx, hcells, _⟩ := owns_row hown
  have hxl := h.1
  refine ⟨a', c', hv, by simp; omega, hmx, hcells, fun i hi => ?_⟩
  by_cases hin : i < n
  · have := (h.2.2.2 i hin).later hb
    simpa [List.getD, List.getElem?_append_left (show i < ((List.range n).map V).length by simpa using hin), List.getElem?_append_left (show i < xs.length by omega), hin] using this
  · obtain rfl : i = n := by omega
    simpa [List.getD, List.getElem?_append_right (show ((List.range i).map V).length ≤ i by simp), List.getElem?_append_right (show xs.length ≤ i by omega), hxl] using hs

set_option maxHeartbeats 1000000 in
set_option maxRecDepth 100000 in
theorem walk1 (a0 : Option Addr) (n0 c0 : Nat) (cv : List ByteArray) (a1 : Option Addr) (n1 c1 : Nat) (V1 : Nat → Value) (cs : List (List ByteArray)) (a2 : Option Addr) (n2 c2 : Nat) (z2 : List Int) (a3 : Option Addr) (n3 c3 : Nat) (z3 : List Int) (w : World)
    (h0 : SL w a0 n0 cv) (h1 : SS w a1 n1 V1 cs)
    (h2 : 0 < n2 → ∃ b off, a2 = some ⟨b, off, none⟩ ∧ b < w.heap.size ∧ ∀ i, i < n2 → w.cell? ⟨b, off + i, none⟩ = some (.int .u8 (z2.getD i 0)))
    (h3 : 0 < n3 → ∃ b off, a3 = some ⟨b, off, none⟩ ∧ b < w.heap.size ∧ ∀ i, i < n3 → w.cell? ⟨b, off + i, none⟩ = some (.int .u8 (z3.getD i 0)))
    (f2 : ∀ i, i < n2 → 0 ≤ z2.getD i 0 ∧ z2.getD i 0 ≤ 255) (f3 : ∀ i, i < n3 → 0 ≤ z3.getD i 0 ∧ z3.getD i 0 ≤ 255)
    (hS : ∀ s ∈ cv, s.size ≤ 140737488351232) (hT : ∀ s ∈ cs, s.length ≤ 8796093021952)
    (k0 : n0 ≤ 1024) (k1 : n1 ≤ 1024) (k2 : n2 ≤ 1024) (k3 : n3 ≤ 1024) :
    Calls Yba.prog 4 #[.slice a0 n0 c0, .slice a1 n1 c1, .slice a2 n2 c2, .slice a3 n3 c3] w fun e w' => e = .returned (.bool true) ∧ Below w.heap.size w w' := by
  have d0 : decide ((1024 : Int) < (n0 : Int)) = false := by simp; omega
  have d1 : decide ((1024 : Int) < (n1 : Int)) = false := by simp; omega
  have d2 : decide ((1024 : Int) < (n2 : Int)) = false := by simp; omega
  have d3 : decide ((1024 : Int) < (n3 : Int)) = false := by simp; omega
  obtain ⟨i9, hi9, hz9, hs9, hb9⟩ := info_parts info9
  go_enter Yba.func4, Yba.ntmps4
  go_upto_if 42 with fail
  go_cut [9] (fun v wx => ∃ a n c dv, v = .slice a n c ∧ SL wx a n dv ∧ (a = none → n = 0 ∧ c = 0) ∧ n ≤ 1024 ∧ (∀ x ∈ dv, x ∈ cv) ∧ Below w.heap.size w wx)
  case first =>
    by_cases hn0 : n0 = 0
    · subst hn0
      go_wp2
      go_meet
      exact ⟨none, 0, 0, [], rfl, ⟨rfl, by omega, fun h => by omega⟩, fun _ => ⟨rfl, rfl⟩, by omega, by simp, Below.refl _ _⟩
    · have d4 : decide (0 < n0) = true := by simp; omega
      obtain ⟨b0, o0, rfl, hb0, hc0⟩ := h0.2.2 (by omega)
      have HL0 : Hid (cv.length = n0) := h0.1
      have HC0 : Hid (∀ i, i < n0 → w.cell? ⟨b0, o0 + i, none⟩ = some (.string (cv.getD i ByteArray.empty))) := hc0
      have H2 : Hid (0 < n2 → ∃ b off, a2 = some ⟨b, off, none⟩ ∧ b < w.heap.size ∧ ∀ i, i < n2 → w.cell? ⟨b, off + i, none⟩ = some (.int .u8 (z2.getD i 0))) := h2
      have F2 : Hid (∀ i, i < n2 → 0 ≤ z2.getD i 0 ∧ z2.getD i 0 ≤ 255) := f2
      clear hc0 h0 h1 h2 h3 f2 f3
      simp only [d4]
      go_wp2
      go_loopw [9, 10] (fun v i wr => ∃ (k : Nat) (dv : List ByteArray), k ≤ n2 ∧ i = .int .i64 k ∧ wr.ownsRow w.heap.size 9 1 v k (dv.map Value.string) ∧ (∀ x ∈ dv, x ∈ cv) ∧ Below w.heap.size w wr) (fun _ i _ => n2 - (intOf i).toNat)
      case atStart => exact ⟨0, [], Nat.zero_le _, rfl, World.ownsRow_nil _ _ _ _, by simp, Below.refl _ _⟩
      case round =>
        obtain ⟨k, dv, hk, rfl, hown, hsub, hbr⟩ := hrel
        by_cases hkn : k < n2
        · obtain ⟨b2, o2, rfl, hb2, hc2⟩ := H2.out (by omega)
          have q2 := (hbr.cell (p := ⟨b2, o2 + k, none⟩) hb2).trans (hc2 k hkn)
          obtain ⟨g1, g2⟩ := F2.out k hkn
          obtain ⟨zn, hz⟩ := Int.eq_ofNat_of_zero_le g1
          rw [hz] at q2 g2
          clear hz hc2 H2 F2 g1
          have hm : zn % n0 < n0 := Nat.mod_lt _ (by omega)
          have q0 := (hbr.cell (p := ⟨b0, o0 + zn % n0, none⟩) hb0).trans (HC0.out (zn % n0) hm)
          have hx : cv.getD (zn % n0) ByteArray.empty ∈ cv := by have := HL0.out; rw [List.getD, List.getElem?_eq_getElem (by omega)]; simp
          generalize cv.getD (zn % n0) ByteArray.empty = x at q0 hx
          have hi0 : (0 : Int) < (n0 : Int) := by omega
          have hi1 : (0 : Int) ≤ (zn : Int) % (n0 : Int) := Int.emod_nonneg _ (by omega)
          have hi2 : (zn : Int) % (n0 : Int) < (n0 : Int) := Int.emod_lt_of_pos _ hi0
          go_wp2_with (first
            | (at_builtin; refine wpList_append_own _ rfl (.tmp 49) (.tmp 61) 22 rfl w.heap.size 9 i9 (.string ByteArray.empty) 1 16 Yba.underlying22 hi9 hz9 hs9 hb9 rfl (by decide) _ _ _ rfl (hown.alloc _) ⟨wr.heap.size, 0, none⟩ 1 1 [.string x] rfl rfl (cell_one_new _ _ _) (by intro u hu; simp at hu; subst hu; rfl) (by unfold maxLen; omega) (by omega) (by have := hbr.size; simp; omega) ?_; intro v' w1 hown' hgrow _)
            | go_in)
          have R2 := appended hown hbr hgrow
          have R1 : w1.ownsRow w.heap.size 9 1 v' (k + 1) ((dv ++ [x]).map Value.string) := by simpa using hown'
          clear hown' hgrow hown hbr q0 q2
          go_roundw
          case rel => exact ⟨k + 1, dv ++ [x], by omega, by go_num, R1, fun y hy => by
              rcases List.mem_append.1 hy with h | h
              · exact hsub y h
              · simp at h; subst h; exact hx, R2⟩
          case measure => simp [intOf]; omega
        · have hkz : ¬ (k : Int) < (n2 : Int) := by omega
          obtain ⟨a, c, hv, hsl, hno⟩ := owns_SL hown
          have HV : Hid (∃ a c, u9 = .slice a k c ∧ SL wr a k dv ∧ (a = none → k = 0 ∧ c = 0)) := ⟨a, c, hv, hsl, hno⟩
          clear hv hsl hno hown HC0 H2 F2
          go_wp2
          go_meet
          obtain ⟨a, c, hv, hsl, hno⟩ := HV.out
          exact ⟨a, k, c, dv, hv, hsl, hno, by omega, hsub, hbr⟩
  case rest =>
    rename World => wA
    obtain ⟨a9, n9, c9, dv, rfl, hdv, hno9, hn9, hsub9, hbA⟩ := hcut
    obtain ⟨i22, hi22, hz22, hs22, hb22⟩ := info_parts info22
    go_upto_if 65 with fail
    go_cut [11] (fun v wx => ∃ a n c V ds, v = .slice a n c ∧ SS wx a n V ds ∧ (a = none → n = 0 ∧ c = 0) ∧ n ≤ 1024 ∧ (∀ x ∈ ds, x ∈ cs) ∧ Below wA.heap.size wA wx)
    case first =>
      by_cases hn1 : n1 = 0
      · subst hn1
        go_wp2
        go_meet
        exact ⟨none, 0, 0, fun _ => undef, [], rfl, ⟨rfl, by omega, fun h => by omega, fun i hi => by omega⟩, fun _ => ⟨rfl, rfl⟩, by omega, by simp, Below.refl _ _⟩
      · have d4 : decide (0 < n1) = true := by simp; omega
        obtain ⟨b1, o1, rfl, hb1, hc1⟩ := h1.2.2.1 (by omega)
        have HL1 : Hid (cs.length = n1) := h1.1
        have HC1 : Hid (∀ i, i < n1 → wA.cell? ⟨b1, o1 + i, none⟩ = some (V1 i) ∧ SV wA (V1 i) (cs.getD i [])) := fun i hi => ⟨(hbA.cell (p := ⟨b1, o1 + i, none⟩) hb1).trans (hc1 i hi), (h1.2.2.2 i hi).later hbA⟩
        have H3 : Hid (0 < n3 → ∃ b off, a3 = some ⟨b, off, none⟩ ∧ b < wA.heap.size ∧ ∀ i, i < n3 → wA.cell? ⟨b, off + i, none⟩ = some (.int .u8 (z3.getD i 0))) := fun hn => by
          obtain ⟨b, off, e, hb, hc⟩ := h3 hn
          exact ⟨b, off, e, Nat.lt_of_lt_of_le hb hbA.size, fun i hi => (hbA.cell (p := ⟨b, off + i, none⟩) hb).trans (hc i hi)⟩
        have F3 : Hid (∀ i, i < n3 → 0 ≤ z3.getD i 0 ∧ z3.getD i 0 ≤ 255) := f3
        have hb1c : b1 < wA.heap.size := Nat.lt_of_lt_of_le hb1 hbA.size
        clear hc1 h0 h1 h2 h3 f2 f3 hdv hsub9 hbA hb1
        simp only [d4]
        go_wp2
        go_loopw [11, 12] (fun v i wr => ∃ (k : Nat) (vs : List Value) (ds : List (List ByteArray)), k ≤ n3 ∧ i = .int .i64 k ∧ wr.ownsRow wA.heap.size 22 1 v k vs ∧ (ds.length = k ∧ ∀ i, i < k → SV wA (vs.getD i undef) (ds.getD i [])) ∧ (∀ x ∈ ds, x ∈ cs) ∧ Below wA.heap.size wA wr) (fun _ i _ => n3 - (intOf i).toNat)
        case atStart => exact ⟨0, [], [], Nat.zero_le _, rfl, World.ownsRow_nil _ _ _ _, ⟨rfl, fun i hi => by omega⟩, by simp, Below.refl _ _⟩
        case round =>
          obtain ⟨k, vs, ds, hk, rfl, hown, hval, hsub, hbr⟩ := hrel
          by_cases hkn : k < n3
          · obtain ⟨b3, o3, rfl, hb3, hc3⟩ := H3.out (by omega)
            have q3 := (hbr.cell (p := ⟨b3, o3 + k, none⟩) hb3).trans (hc3 k hkn)
            obtain ⟨g1, g2⟩ := F3.out k hkn
            obtain ⟨zn, hz⟩ := Int.eq_ofNat_of_zero_le g1
            rw [hz] at q3 g2
            clear hz hc3 H3 F3 g1
            have hm : zn % n1 < n1 := Nat.mod_lt _ (by omega)
            obtain ⟨q1, hsv⟩ := HC1.out (zn % n1) hm
            have q1 := (hbr.cell (p := ⟨b1, o1 + zn % n1, none⟩) hb1c).trans q1
            have hx : cs.getD (zn % n1) [] ∈ cs := by have := HL1.out; rw [List.getD, List.getElem?_eq_getElem (by omega)]; simp
            obtain ⟨ya, yn, yc, ey, hsl⟩ := hsv
            rw [ey] at q1
            have HSV : Hid (SV wA (.slice ya yn yc) (cs.getD (zn % n1) [])) := ⟨ya, yn, yc, rfl, hsl⟩
            clear hsl ey
            generalize cs.getD (zn % n1) [] = x at hx HSV
            have hi0 : (0 : Int) < (n1 : Int) := by omega
            have hi1 : (0 : Int) ≤ (zn : Int) % (n1 : Int) := Int.emod_nonneg _ (by omega)
            have hi2 : (zn : Int) % (n1 : Int) < (n1 : Int) := Int.emod_lt_of_pos _ hi0
            have HVL : Hid (ds.length = k ∧ ∀ i, i < k → SV wA (vs.getD i undef) (ds.getD i [])) := hval
            clear hval
            go_wp2_with (first
              | (at_builtin; refine wpList_append_own _ rfl (.tmp 72) (.tmp 84) 23 rfl wA.heap.size 22 i22 (.slice none 0 0) 1 24 Yba.underlying23 hi22 hz22 hs22 hb22 rfl (by decide) _ _ _ rfl (hown.alloc _) ⟨wr.heap.size, 0, none⟩ 1 1 [.slice ya yn yc] rfl rfl (cell_one_new _ _ _) (by intro u hu; simp at hu; subst hu; rfl) (by unfold maxLen; omega) (by omega) (by have := hbr.size; simp; omega) ?_; intro v' w1 hown' hgrow _)
              | go_in)
            have R2 := appended hown hbr hgrow
            have R1 : w1.ownsRow wA.heap.size 22 1 v' (k + 1) (vs ++ [.slice ya yn yc]) := hown'
            have hvl : vs.length = k := by have := hown.1; simpa using this
            have R3 : (ds ++ [x]).length = k + 1 ∧ ∀ i, i < k + 1 → SV wA ((vs ++ [Value.slice ya yn yc]).getD i undef) ((ds ++ [x]).getD i []) := by
              obtain ⟨e1, e2⟩ := HVL.out
              refine ⟨by simp [e1], fun i hi => ?_⟩
              by_cases e : i < k
              · have := e2 i e
                simpa [List.getD, List.getElem?_append_left (show i < vs.length by omega), List.getElem?_append_left (show i < ds.length by omega)] using this
              · obtain rfl : i = k := by omega
                simpa [List.getD, List.getElem?_append_right (show vs.length ≤ i by omega), List.getElem?_append_right (show ds.length ≤ i by omega), hvl, e1] using HSV.out
            clear hown' hgrow hown hbr q1 q3 HVL hvl
            go_roundw
            case rel => exact ⟨k + 1, vs ++ [.slice ya yn yc], ds ++ [x], by omega, by go_num, R1, R3, fun y hy => by
                rcases List.mem_append.1 hy with h | h
                · exact hsub y h
                · simp at h; subst h; exact hx, R2⟩
            case measure => simp [intOf]; omega
          · have hkz : ¬ (k : Int) < (n3 : Int) := by omega
            have HV : Hid (∃ a c, u11 = .slice a k c ∧ SS wr a k (fun i => vs.getD i undef) ds ∧ (a = none → k = 0 ∧ c = 0)) := by
              obtain ⟨a, c, hv, hl, hmx, hcells, hno⟩ := owns_row hown
              exact ⟨a, c, hv, ⟨hval.1, hmx, hcells, fun i hi => (hval.2 i hi).later hbr⟩, hno⟩
            clear hown hval HC1 H3 F3
            go_wp2
            go_meet
            obtain ⟨a, c, hv, hss, hno⟩ := HV.out
            exact ⟨a, k, c, _, ds, hv, hss, hno, by omega, hsub, hbr⟩
    case rest =>
      rename World => wB
      obtain ⟨a11, n11, c11, V11, ds, rfl, hds, hno11, hn11, hsub11, hbB⟩ := hcut
      have hB : Below w.heap.size w wB := hbA.trans (hbB.mono hbA.size)
      have hdv := hdv.later hbB
      have h0 := h0.later hB
      have h1 := h1.later hB
      clear h2 h3 f2 f3 hbA hbB
      obtain ⟨W1, hW1⟩ : ∃ W1, W1 = (wB.alloc (.cells #[.string ⟨#[97]⟩, .slice a0 n0 c0, .slice a1 n1 c1] 25)).alloc (.cells #[.string ⟨#[98]⟩, .slice a9 n9 c9, .slice a11 n11 c11] 25) := ⟨_, rfl⟩
      have hB1 : Below wB.heap.size wB W1 := by rw [hW1]; exact ((Below.refl _ _).alloc (Nat.le_refl _) _).alloc (by simp) _
      have hI := holdsAll_any ⟨#[97]⟩ ⟨#[98]⟩ a0 n0 c0 cv a1 n1 c1 V1 cs a9 n9 c9 dv a11 n11 c11 V11 ds W1 (h0.later hB1) (h1.later hB1) (hdv.later hB1) (hds.later hB1)
      rw [holds_sub hsub9 hsub11] at hI
      have hlt0 : wB.heap.size < W1.heap.size := by rw [hW1]; simp; omega
      have k10 : W1.cell? ⟨wB.heap.size, 0, none⟩ = some (.string ⟨#[97]⟩) := by rw [hW1, World.cell?_alloc_lt _ _ _ (by simp), World.cell?_alloc_at _ _ _ _ rfl]; rfl
      have k11 : W1.cell? ⟨wB.heap.size, 1, none⟩ = some (.slice a0 n0 c0) := by rw [hW1, World.cell?_alloc_lt _ _ _ (by simp), World.cell?_alloc_at _ _ _ _ rfl]; rfl
      have k12 : W1.cell? ⟨wB.heap.size, 2, none⟩ = some (.slice a1 n1 c1) := by rw [hW1, World.cell?_alloc_lt _ _ _ (by simp), World.cell?_alloc_at _ _ _ _ rfl]; rfl
      have KC : Hid (∀ W, Below W1.heap.size W1 W → W.cell? ⟨wB.heap.size, 0, none⟩ = some (.string ⟨#[97]⟩) ∧ W.cell? ⟨wB.heap.size, 1, none⟩ = some (.slice a0 n0 c0) ∧ W.cell? ⟨wB.heap.size, 2, none⟩ = some (.slice a1 n1 c1)) := fun W hW =>
        ⟨(hW.cell (p := ⟨wB.heap.size, 0, none⟩) hlt0).trans k10, (hW.cell (p := ⟨wB.heap.size, 1, none⟩) hlt0).trans k11, (hW.cell (p := ⟨wB.heap.size, 2, none⟩) hlt0).trans k12⟩
      have hcv := h0.later hB1
      have hcs := h1.later hB1
      have hdv := hdv.later hB1
      have hds := hds.later hB1
      have hBW : Below w.heap.size w W1 := hB.trans (hB1.mono hB.size)
      clear h0 h1 hB hB1 k10 k11 k12
      go_wp2_with fail
      rw [← hW1]
      refine hI.mono ?_
      rintro e w3 ⟨rfl, hb3⟩
      obtain ⟨q0, q1, q2⟩ := KC.out w3 hb3
      have hJ := holdsAll_any ⟨#[97]⟩ ⟨#[97]⟩ a0 n0 c0 cv a1 n1 c1 V1 cs a0 n0 c0 cv a1 n1 c1 V1 cs w3 (hcv.later hb3) (hcs.later hb3) (hcv.later hb3) (hcs.later hb3)
      rw [holds_sub (fun x hx => hx) (fun x hx => hx)] at hJ
      clear hW1 hI
      go_wp2_with fail
      refine hJ.mono ?_
      rintro e w4 ⟨rfl, hb4⟩
      have hb4 : Below W1.heap.size W1 w4 := hb3.trans (hb4.mono hb3.size)
      clear hJ hb3 q0 q1 q2
      go_wp2
      go_loop [15, 16] (fun s i => ∃ (k : Nat) (x : ByteArray), k ≤ n0 ∧ i = .int .i64 k ∧ s = .string x ∧ 1 ≤ x.size ∧ x.size ≤ 1 + k * 140737488351232 ∧ Hid (∀ j, j < k → (cv.getD j ByteArray.empty).size < x.size)) (fun _ i => n0 - (intOf i).toNat)
      case atStart => exact ⟨0, ⟨#[120]⟩, Nat.zero_le _, rfl, rfl, by decide, by decide, fun j hj => by omega⟩
      case round =>
        obtain ⟨k, x, hk, rfl, rfl, hx1, hx2, A⟩ := hrel
        by_cases hkn : k < n0
        · obtain ⟨b0, o0, rfl, hb0, hc0⟩ := hcv.2.2 (by omega)
          have q0 := (hb4.cell (p := ⟨b0, o0 + k, none⟩) hb0).trans (hc0 k hkn)
          have hy := hS (cv.getD k ByteArray.empty) (by have := hcv.1; rw [List.getD, List.getElem?_eq_getElem (by omega)]; simp)
          have A2 : Hid (∀ y : ByteArray, y = cv.getD k ByteArray.empty → ∀ z : ByteArray, z.size = x.size + y.size → ∀ j, j < k + 1 → (cv.getD j ByteArray.empty).size < z.size) := by
            intro y hy z hz j hj
            by_cases e : j = k
            · subst e; rw [← hy]; omega
            · have := A.out j (by omega); omega
          clear hc0 hcv hcs hdv hds
          generalize hyy : cv.getD k ByteArray.empty = y at q0 hy A2
          have HY : Hid (cv.getD k ByteArray.empty = y) := hyy
          clear hyy
          have hkz : (k : Int) < (n0 : Int) := by omega
          go_wp2
          exact ⟨⟨k + 1, x ++ y, by omega, by go_num, rfl, by rw [ByteArray.size_append]; omega, by rw [ByteArray.size_append]; omega, A2.out y rfl (x ++ y) (by rw [ByteArray.size_append])⟩, by simp [intOf]; omega⟩
        · obtain rfl : k = n0 := by omega
          have hnot : x ∉ cv := by
            intro hm
            obtain ⟨j, hj, e⟩ := List.getElem_of_mem hm
            have hl := hcv.1
            have := A.out j (by omega)
            rw [List.getD, List.getElem?_eq_getElem hj] at this
            simp [e] at this
          have HN : Hid (x ∉ cv) := hnot
          clear hnot A
          have hkz : ¬ (k : Int) < (k : Int) := by omega
          have mk := fun w => make22 0 (n9 + 1) (by omega) (by omega) w
          simp only [Int.natCast_add, Int.natCast_zero, Int.natCast_one] at mk
          have hown4 : (w4.alloc (.cells (strow (n9 + 1)) 9)).ownsRow W1.heap.size 9 1 (.slice (some ⟨w4.heap.size, 0, none⟩) 0 (n9 + 1)) 0 [] := World.ownsRow_made w4 _ (n9 + 1) hb4.size (by unfold maxLen; omega) (strow_size _)
          have hdv4 := hdv.later hb4
          have hsl5 := hdv4.later (W := w4.alloc (.cells (strow (n9 + 1)) 9)) ((Below.refl _ _).alloc (Nat.le_refl _) _)
          have hc5 := cells_SL hsl5
          have hl9 : (dv.map Value.string).length = n9 * 1 := by have := hdv.1; simp; omega
          have h1s := one_strings dv
          have HX : Hid (∀ u ∈ [Value.string x], u.oneCell' = true) := one_string x
          clear hsl5 hdv4
          have hge4 : W1.heap.size ≤ w4.heap.size := hb4.size
          go_wp2_with (first
            | (at_builtin; refine wpList_append_fits_any _ rfl (.tmp 118) (.tmp 119) 22 rfl W1.heap.size 9 i9 1 Yba.underlying22 hi9 hs9 w4.heap.size 0 (n9 + 1) [] rfl hown4 a9 n9 c9 (dv.map Value.string) rfl hl9 hno9 hc5 h1s (by omega) ?_; intro w5 hown5 hgr5; simp only [Nat.zero_add, List.nil_append] at hown5; have hb5 : Below W1.heap.size W1 w5 := below_fits hb4 hgr5 hge4 hge4)
            | (at_builtin; refine wpList_append_fits _ rfl (.tmp 121) (.tmp 123) 22 rfl W1.heap.size 9 i9 1 Yba.underlying22 hi9 hs9 w4.heap.size n9 (n9 + 1) (dv.map Value.string) rfl (hown5.alloc _) ⟨w5.heap.size, 0, none⟩ 1 1 [.string x] rfl rfl (cell_one_new _ _ _) HX.out (by omega) ?_; intro w6 hown6 hgr6; have hb6 : Below W1.heap.size W1 w6 := below_fits hb5 hgr6 hb5.size hge4; obtain ⟨q0, q1, q2⟩ := KC.out w6 hb6))
          have hsl6 : SL w6 (some ⟨w4.heap.size, 0, none⟩) (n9 + 1) (dv ++ [x]) := by
            obtain ⟨a, c, e, h, _⟩ := owns_SL (ss := dv ++ [x]) (by simpa using hown6)
            simp at e
            obtain ⟨rfl, rfl⟩ := e
            exact h
          have hK := holdsAll_any ⟨#[97]⟩ ⟨#[]⟩ a0 k c0 cv a1 n1 c1 V1 cs (some ⟨w4.heap.size, 0, none⟩) (n9 + 1) (n9 + 1) (dv ++ [x]) a11 n11 c11 V11 ds w6 (hcv.later hb6) (hcs.later hb6) hsl6 (hds.later hb6)
          rw [holds_novalue HN.out] at hK
          refine hK.mono ?_
          rintro e w7 ⟨rfl, hb7⟩
          have hb7 : Below W1.heap.size W1 w7 := hb6.trans (hb7.mono hb6.size)
          clear hK hsl6 hown6 hgr6 hb6 q0 q1 q2 hown5 hgr5 hb5 hown4 HN HX hl9 h1s hc5 mk hb4 hge4 hx1 hx2
          go_wp2
          go_loop [18, 19] (fun v i => ∃ k2 L : Nat, k2 ≤ n1 ∧ i = .int .i64 k2 ∧ v = .int .i64 L ∧ L ≤ 8796093021952 ∧ Hid (∀ j, j < k2 → (cs.getD j []).length ≤ L)) (fun _ i => n1 - (intOf i).toNat)
          case atStart => exact ⟨0, 0, Nat.zero_le _, rfl, rfl, Nat.zero_le _, fun j hj => by omega⟩
          case round =>
            obtain ⟨k2, L, hk2, rfl, rfl, hL, A⟩ := hrel
            by_cases hkn2 : k2 < n1
            · obtain ⟨b1, o1, rfl, hb1, hc1⟩ := hcs.2.2.1 (by omega)
              have q0 := (hb7.cell (p := ⟨b1, o1 + k2, none⟩) hb1).trans (hc1 k2 hkn2)
              obtain ⟨ya, yn, yc, ey, hsl⟩ := hcs.2.2.2 k2 hkn2
              rw [ey] at q0
              have hyn : yn ≤ 8796093021952 := by
                rw [← hsl.1]
                exact hT _ (by have := hcs.1; rw [List.getD, List.getElem?_eq_getElem (by omega)]; simp)
              have HYN : Hid ((cs.getD k2 []).length = yn) := hsl.1
              have hkz2 : (k2 : Int) < (n1 : Int) := by omega
              clear hsl ey hc1 hcs hds hdv hcv
              by_cases hc : L < yn
              · go_wp2
                go_round
                case rel => exact ⟨k2 + 1, yn, by omega, by go_num, rfl, hyn, fun j hj => by
                    by_cases e : j = k2
                    · subst e; rw [HYN.out]; exact Nat.le_refl _
                    · have := A.out j (by omega); omega⟩
                case measure => simp [intOf]; omega
              · go_wp2
                go_round
                case rel => exact ⟨k2 + 1, L, by omega, by go_num, rfl, hL, fun j hj => by
                    by_cases e : j = k2
                    · subst e; rw [HYN.out]; omega
                    · have := A.out j (by omega); omega⟩
                case measure => simp [intOf]; omega
            · have hkz2 : ¬ (k2 : Int) < (n1 : Int) := by omega
              have HN : Hid (List.replicate (L + 1) ByteArray.empty ∉ cs) := by
                intro hm
                obtain ⟨j, hj, e⟩ := List.getElem_of_mem hm
                have hl := hcs.1
                have := A.out j (by omega)
                rw [List.getD, List.getElem?_eq_getElem hj] at this
                simp [e] at this
                omega
              have mk := fun w => make22 (L + 1) (L + 1) (Nat.le_refl _) (by omega) w
              simp only [Int.natCast_add, Int.natCast_one] at mk
              have mk2 := fun w => make23 0 (n11 + 1) (by omega) (by omega) w
              simp only [Int.natCast_add, Int.natCast_zero, Int.natCast_one] at mk2
              have hge7 : W1.heap.size ≤ w7.heap.size := hb7.size
              have hb8 : Below W1.heap.size W1 (w7.alloc (.cells (strow (L + 1)) 9)) := hb7.alloc hge7 _
              have hown8 : ((w7.alloc (.cells (strow (L + 1)) 9)).alloc (.cells (setrow (n11 + 1)) 22)).ownsRow W1.heap.size 22 1 (.slice (some ⟨(w7.alloc (.cells (strow (L + 1)) 9)).heap.size, 0, none⟩) 0 (n11 + 1)) 0 [] := World.ownsRow_made _ _ (n11 + 1) hb8.size (by unfold maxLen; omega) (setrow_size _)
              have e8 : (w7.alloc (.cells (strow (L + 1)) 9)).heap.size = w7.heap.size + 1 := by simp
              rw [e8] at hown8
              have hb9 : Below W1.heap.size W1 ((w7.alloc (.cells (strow (L + 1)) 9)).alloc (.cells (setrow (n11 + 1)) 22)) := hb8.alloc hb8.size _
              have hss8 := hds.later hb9
              have hc8 := cells_SS hss8
              have h1s := one_sets hss8
              have HX : Hid (∀ u ∈ [Value.slice (some ⟨w7.heap.size, 0, none⟩) (L + 1) (L + 1)], u.oneCell' = true) := one_slice _ _ _
              have hl11 : ((List.range n11).map V11).length = n11 * 1 := by simp
              have HML : Hid (SL (w7.alloc (.cells (strow (L + 1)) 9)) (some ⟨w7.heap.size, 0, none⟩) (L + 1) (List.replicate (L + 1) ByteArray.empty)) := made_SL w7 (L + 1) (by omega)
              clear hss8 A
              go_wp2_with (first
                | (at_builtin; refine wpList_append_fits_any _ rfl (.tmp 155) (.tmp 156) 23 rfl W1.heap.size 22 i22 1 Yba.underlying23 hi22 hs22 (w7.heap.size + 1) 0 (n11 + 1) [] rfl hown8 a11 n11 c11 ((List.range n11).map V11) rfl hl11 hno11 hc8 h1s (by omega) ?_; intro w9 hown9 hgr9; simp only [Nat.zero_add, List.nil_append] at hown9; have hb10 : Below W1.heap.size W1 w9 := below_fits hb8 hgr9 hb8.size (by omega))
                | (at_builtin; refine wpList_append_fits _ rfl (.tmp 158) (.tmp 160) 23 rfl W1.heap.size 22 i22 1 Yba.underlying23 hi22 hs22 (w7.heap.size + 1) n11 (n11 + 1) ((List.range n11).map V11) rfl (hown9.alloc _) ⟨w9.heap.size, 0, none⟩ 1 1 [.slice (some ⟨w7.heap.size, 0, none⟩) (L + 1) (L + 1)] rfl rfl (cell_one_new _ _ _) HX.out (by omega) ?_; intro w11 hown11 hgr11; have hb11 : Below W1.heap.size W1 w11 := below_fits hb10 hgr11 hb10.size (by omega); obtain ⟨q0, q1, q2⟩ := KC.out w11 hb11))
              have hv9 : Below (w7.alloc (.cells (strow (L + 1)) 9)).heap.size (w7.alloc (.cells (strow (L + 1)) 9)) w9 := below_fits (Below.refl _ _) hgr9 (Nat.le_refl _) (by rw [e8]; exact Nat.le_refl _)
              have hv11 : Below (w7.alloc (.cells (strow (L + 1)) 9)).heap.size (w7.alloc (.cells (strow (L + 1)) 9)) w11 := below_fits hv9 hgr11 hv9.size (by rw [e8]; exact Nat.le_refl _)
              obtain ⟨a', c', ev, hss11⟩ := SS_snoc hds hb11 ⟨_, _, _, rfl, HML.out.later hv11⟩ hown11
              have hK := holdsAll_any ⟨#[97]⟩ ⟨#[]⟩ a0 k c0 cv a1 n1 c1 V1 cs a9 n9 c9 dv a' (n11 + 1) c' _ _ w11 (hcv.later hb11) (hcs.later hb11) (hdv.later hb11) hss11
              rw [holds_noset HN.out, ← ev] at hK
              clear hv9 hv11 hss11 ev hown11 hgr11 q0 q1 q2 hown9 hgr9 hown8 HN HX HML hl11 h1s hc8 mk mk2
              refine hK.mono ?_
              rintro e w12 ⟨rfl, hb12⟩
              have hb12 : Below W1.heap.size W1 w12 := hb11.trans (hb12.mono hb11.size)
              go_wp2
              go_ret
              exact ⟨rfl, hBW.trans (hb12.mono hBW.size)⟩
end Go.Proofs.Ybulkcfrw.lawS4091ASubset
