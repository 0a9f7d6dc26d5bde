/- A proof of Rows.LawS4087CInForceSaid: the seat's shell, its hole filled. -/
import Derived.Test.YbulkcfpsRows
import Derived.WalkKit
import Derived.ProofKit
import Derived.OpenShut
import Derived.ShutString
import Derived.ChangeOld
import Derived.Below
import Derived.Test.YbulkcfpsSpanWalks
import Derived.Deep.QuietTactic
import Derived.BigQuiet
import Derived.WalkSmall
namespace Go.Proofs.Ybulkcfps.lawS4087CInForce
open Go.ChangeShapes Go.WideShapes Go.ChangeAt Go.RowKit
open Go.ChangeMaps (open_string shut_string)
set_option linter.unusedVariables false

theorem own : ownKnob Yba.prog.godebug = none := by kernel_rfl
theorem laidOut : laidOutB Yba.prog = true := by kernel_rfl

/-- WHAT THE WALK IS TOLD OF A SLICE OF INTEGERS THAT CAME IN: it is nil; or it leads to a row of 'cap' cells, the numbers 'zs' (the first 'len' are its elements, the rest its spare room), each fitting its kind. -/
def IsRow (k : IntKind) (w : World) (a : Option Addr) (len cap : Nat) (zs : List Int) : Prop :=
  (a = none ∧ len = 0 ∧ cap = 0 ∧ zs = []) ∨
  ∃ x, a = some x ∧ len ≤ cap ∧ cap ≤ maxLen ∧ zs.length = cap ∧ (∀ i, i < zs.length → w.cell? (x.add i) = some (.int k (zs.getD i 0))) ∧ ∀ n ∈ zs, (Lit.int k n).wf = true

open Go.Shelf Go.Lib Go.Sort
theorem info47 : (Yba.prog.info? 47).map (fun i => (i.zero, i.size, i.bytes)) = some (some (.agg #[.int .i64 0, .int .i64 0, .bool false, .int .i64 0, .int .i64 0]), 5, 40) := by kernel_rfl
/-- The row that make([]replay.Free, n) lays. -/
def frow (n : Nat) : Array Value := madeCells #[.int .i64 0, .int .i64 0, .bool false, .int .i64 0, .int .i64 0] (n * 5)
theorem frow_size (n : Nat) : (frow n).size = n * 5 := size_madeCells _ _
theorem make35 (n : Nat) (hn : n ≤ 1024) (w : World) : (Instr.makeSlice 35 (.int .i64 n) (.int .i64 n)).run Yba.prog w = .ok (.slice (some ⟨w.heap.size, 0, none⟩) n n) (w.alloc (.cells (frow n) 47)) := by
  obtain ⟨i, hi, hz, hs, hb⟩ := info_parts info47
  have h := run_make (P := Yba.prog) w 35 47 i _ Yba.underlying35 hi hz .i64 .i64 n n (by omega) (Int.le_refl _) (by rw [hb]; omega) (by omega)
  rw [hs] at h
  simpa [frow, Value.cells] using h

/-- The frees behind k rounds of the filling loop. -/
def Frees (w : World) (G n k : Nat) (d : Nat → Int) : Prop :=
  (∀ o, o < n * 5 → (∃ v, w.cell? ⟨G, o, none⟩ = some v) ∧ w.frozen? ⟨G, o, none⟩ = false) ∧
  ∀ j, j < k → w.cell? ⟨G, j * 5, none⟩ = some (.int .i64 (d j)) ∧ w.cell? ⟨G, j * 5 + 1, none⟩ = some (.int .i64 j)

theorem frees_made (w : World) (n : Nat) (d : Nat → Int) : Frees (w.alloc (.cells (frow n) 47)) w.heap.size n 0 d := by
  refine ⟨fun o ho => ⟨⟨(frow n)[o]'(by rw [frow_size]; exact ho), ?_⟩, ?_⟩, fun j hj => by omega⟩
  · rw [World.cell?_alloc_at _ _ _ _ rfl]
    exact Array.getElem?_eq_getElem _
  · exact World.frozen?_alloc_new _ _ _ _

/-- one store of a whole Free -/
theorem frees_put (w : World) (G n k : Nat) (d : Nat → Int) (h : Frees w G n k d) (hk : k < n) (x2 x3 x4 : Value) :
    Frees (((((w.setCell ⟨G, k * 5, none⟩ (.int .i64 (d k))).setCell ⟨G, k * 5 + 1, none⟩ (.int .i64 k)).setCell ⟨G, k * 5 + 2, none⟩ x2).setCell ⟨G, k * 5 + 3, none⟩ x3).setCell ⟨G, k * 5 + 4, none⟩ x4) G n (k + 1) d := by
  obtain ⟨h1, h2⟩ := h
  have e : (((((w.setCell ⟨G, k * 5, none⟩ (.int .i64 (d k))).setCell ⟨G, k * 5 + 1, none⟩ (.int .i64 k)).setCell ⟨G, k * 5 + 2, none⟩ x2).setCell ⟨G, k * 5 + 3, none⟩ x3).setCell ⟨G, k * 5 + 4, none⟩ x4) = w.setCells G (k * 5) [.int .i64 (d k), .int .i64 k, x2, x3, x4] := rfl
  rw [e]
  have hin := World.cell?_setCells_in G [.int .i64 (d k), .int .i64 k, x2, x3, x4] (k * 5) w (fun j hj => by
    obtain ⟨⟨v, hv⟩, _⟩ := h1 (k * 5 + j) (by simp at hj; omega)
    rw [hv]; rfl)
  refine ⟨fun o ho => ⟨?_, ?_⟩, fun j hj => ?_⟩
  · by_cases hr : k * 5 ≤ o ∧ o < k * 5 + 5
    · obtain ⟨j, rfl⟩ : ∃ j, o = k * 5 + j := ⟨o - k * 5, by omega⟩
      exact ⟨_, hin j (by simp; omega)⟩
    · rw [World.cell?_setCells_out G _ _ _ _ (fun _ _ => by simp; omega)]
      exact (h1 o ho).1
  · rw [World.frozen?_setCells]
    exact (h1 o ho).2
  · by_cases ej : j = k
    · subst ej
      exact ⟨hin 0 (by simp), hin 1 (by simp)⟩
    · rw [World.cell?_setCells_out G _ _ _ _ (fun _ _ => by simp; omega), World.cell?_setCells_out G _ _ _ _ (fun _ _ => by simp; omega)]
      exact h2 j (by omega)

set_option maxHeartbeats 1000000 in
set_option maxRecDepth 100000 in
theorem walk1 (a0 a1 a3 : Int) (a4 : Bool) (b off n c : Nat) (zs : List Int) (w : World) (hn : n ≤ 1024) (hn0 : 0 < n) (hz : n ≤ zs.length) (hb : b < w.heap.size) (hc : ∀ j, j < zs.length → w.cell? ⟨b, off + j, none⟩ = some (.int .i64 (zs.getD j 0))) :
    Calls Yba.prog 6 #[.int .i64 a0, .int .i64 a1, .slice (some ⟨b, off, none⟩) n c, .int .i64 a3, .bool a4] w fun e w' => e = .returned (.bool true) ∧ Below w.heap.size w w' := by
  have d0 : decide ((1024 : Int) < (n : Int)) = false := by simp; omega
  have d1 : decide ((0 : Int) < (n : Int)) = true := by simp; omega
  have hln : (zs.take n).length = n := by simp; omega
  have hcl := clone_any b off n c zs w hn hn0 hz hc
  clear hc hz
  generalize zs.take n = ts at hcl hln
  clear hb
  have mk := make35 n hn
  have hso : ∀ g cap w1, Holds (Value.int .i64) w1 g 0 ts.toArray → g < w1.heap.size → Calls Yba.prog 11 #[.slice (some ⟨g, 0, none⟩) n cap] w1 fun e w' => e = .returned (.tuple #[]) ∧ (∀ i, i < n → w'.cell? ⟨g, i, none⟩ = some (.int .i64 ((ts.mergeSort fun x y => decide (x ≤ y)).getD i 0))) ∧ g < w'.heap.size ∧ w1.grownBy w' (some g) := by
    intro g cap w1 h1 h2
    have := sort_any g cap ts w1 (by omega) h1 h2
    rwa [hln] at this
  have HR : Hid (∀ a b, a ≤ b → b < n → (ts.mergeSort fun x y => decide (x ≤ y)).getD a 0 ≤ (ts.mergeSort fun x y => decide (x ≤ y)).getD b 0) := by
    have := SpanLaw.rising ts
    rwa [hln] at this
  clear hln
  have HO : Hid (∀ g cap w1, Holds (Value.int .i64) w1 g 0 ts.toArray → g < w1.heap.size → Calls Yba.prog 11 #[.slice (some ⟨g, 0, none⟩) n cap] w1 fun e w' => e = .returned (.tuple #[]) ∧ (∀ i, i < n → w'.cell? ⟨g, i, none⟩ = some (.int .i64 ((ts.mergeSort fun x y => decide (x ≤ y)).getD i 0))) ∧ g < w'.heap.size ∧ w1.grownBy w' (some g)) := hso
  clear hso
  go_enter Yba.func6, Yba.ntmps6
  go_wp2_with (go_at_call 10; refine hcl.mono ?_; rintro e w1 ⟨g, cap, rfl, hH, hg0, hg1, hb1⟩)
  go_wp2_with (go_at_call 11; refine (HO.out g cap _ hH hg1).mono ?_; rintro e w2 ⟨rfl, hs2, hg2, hgr⟩)
  have hb2 : Below w.heap.size w w2 := hb1.grown hgr hb1.size (fun j hj => by cases hj; exact hg0)
  obtain ⟨d, HRd, HSd⟩ : ∃ d : Nat → Int, Hid (∀ a b, a ≤ b → b < n → d a ≤ d b) ∧ Hid (∀ i, i < n → w2.cell? ⟨g, i, none⟩ = some (.int .i64 (d i))) := ⟨_, HR, hs2⟩
  clear HR hs2 hgr hH hg1 hb1 hcl HO w1
  have hG0 : g ≠ w2.heap.size := by omega
  go_loopw [13] (fun i wr => ∃ k : Nat, k ≤ n ∧ i = .int .i64 k ∧ Below w2.heap.size w2 wr ∧ w2.heap.size < wr.heap.size ∧ Frees wr w2.heap.size n k d) (fun i _ => n - (intOf i).toNat)
  case atStart => exact ⟨0, Nat.zero_le _, rfl, (Below.refl _ _).alloc (Nat.le_refl _) _, by simp, frees_made _ _ _⟩
  case round =>
    obtain ⟨k, hk, rfl, hbr, hGr, hF⟩ := hrel
    by_cases hkn : k < n
    · have q0 := (hbr.cell (p := ⟨g, k, none⟩) (by exact hg2)).trans (HSd.out k hkn)
      obtain ⟨⟨v0, e0⟩, f0⟩ := hF.1 (k * 5) (by omega)
      obtain ⟨⟨v1, e1⟩, f1⟩ := hF.1 (k * 5 + 1) (by omega)
      obtain ⟨⟨v2, e2⟩, f2⟩ := hF.1 (k * 5 + 2) (by omega)
      obtain ⟨⟨v3, e3⟩, f3⟩ := hF.1 (k * 5 + 3) (by omega)
      obtain ⟨⟨v4, e4⟩, f4⟩ := hF.1 (k * 5 + 4) (by omega)
      have hP := frees_put wr w2.heap.size n k d hF hkn
      clear hF
      go_wp2
      exact ⟨⟨k + 1, by omega, by go_num, ((((hbr.setCell (Nat.le_refl _) _).setCell (Nat.le_refl _) _).setCell (Nat.le_refl _) _).setCell (Nat.le_refl _) _).setCell (Nat.le_refl _) _, by simpa using hGr, hP _ _ _⟩, by simp [intOf]; omega⟩
    · obtain rfl : k = n := by omega
      obtain ⟨cc, hcn, hp1, hp2⟩ := SpanLaw.parted d a3 k HRd.out
      obtain ⟨m, hm⟩ : ∃ m, m = cc - 1 := ⟨_, rfl⟩
      have hmN : SpanLaw.nTo d a3 k = m := by rw [hm]; exact SpanLaw.nTo_all d a3 k cc hcn hp1 hp2
      have HM : Hid (SpanLaw.nTo d a3 k = m) := hmN
      have hmk : m < k := by omega
      obtain ⟨u, hu⟩ : ∃ u, (m + 1 < k ∧ u = d (m + 1)) ∨ (k ≤ m + 1 ∧ u = 9223372036854775807) := by
        by_cases h : m + 1 < k
        · exact ⟨_, .inl ⟨h, rfl⟩⟩
        · exact ⟨_, .inr ⟨by omega, rfl⟩⟩
      have HSp : Hid (∀ o, Calls Yba.prog 9 #[.agg #[.int .i64 a0, .int .i64 a1, .slice (some ⟨w2.heap.size, 0, none⟩) k k, .bool a4], .int .i64 a3] (wr.alloc o) fun e w' => e = .returned (.tuple #[.int .i64 (d m), .int .i64 u]) ∧ Below (wr.alloc o).heap.size (wr.alloc o) w') := fun o =>
        span_any w2.heap.size k k cc m a0 a1 a3 u a4 d (wr.alloc o) hn hn0 (by simp; omega) (fun i hi => cell_alloc_sl o (hF.2 i hi).1) hcn hp1 hp2 hm hu
      have HU : Hid ((m + 1 < k ∧ u = d (m + 1)) ∨ (k ≤ m + 1 ∧ u = 9223372036854775807)) := hu
      have HF : Hid (∀ j, j < k → wr.cell? ⟨w2.heap.size, j * 5, none⟩ = some (.int .i64 (d j)) ∧ wr.cell? ⟨w2.heap.size, j * 5 + 1, none⟩ = some (.int .i64 j)) := hF.2
      have HSr : Hid (∀ i, i < k → wr.cell? ⟨g, i, none⟩ = some (.int .i64 (d i))) := fun i hi => (hbr.cell (p := ⟨g, i, none⟩) (by exact hg2)).trans (HSd.out i hi)
      have hbw : Below w.heap.size w wr := hb2.trans (hbr.mono (by omega))
      have hgr : g < wr.heap.size := by omega
      clear hF hmN hm hp1 hp2 hu hcn HSd HRd hbr hb2 mk
      have hnl := fun a n c w => Lib.run_eql_slice_nil (P := Yba.prog) w 35 47 a n c 0 0 Yba.underlying35
      go_wp2_with (go_at_call 9; refine (HSp.out _).mono ?_; rintro e w3 ⟨rfl, hb3⟩)
      have HS3 : Hid (∀ i, i < k → w3.cell? ⟨g, i, none⟩ = some (.int .i64 (d i))) := fun i hi => (hb3.cell (p := ⟨g, i, none⟩) (by simp; omega)).trans (cell_alloc_sl _ (HSr.out i hi))
      have HF3 : Hid (∀ j, j < k → w3.cell? ⟨w2.heap.size, j * 5, none⟩ = some (.int .i64 (d j)) ∧ w3.cell? ⟨w2.heap.size, j * 5 + 1, none⟩ = some (.int .i64 j)) := fun j hj =>
        ⟨(hb3.cell (p := ⟨w2.heap.size, j * 5, none⟩) (by simp; omega)).trans (cell_alloc_sl _ (HF.out j hj).1), (hb3.cell (p := ⟨w2.heap.size, j * 5 + 1, none⟩) (by simp; omega)).trans (cell_alloc_sl _ (HF.out j hj).2)⟩
      have hbw3 : Below w.heap.size w w3 := (hbw.alloc (hbw.size) _).trans (hb3.mono (by have := hbw.size; simp; omega))
      clear hb3 HF HSr hbw HSp
      go_loop [17, 18] (fun v i => ∃ j : Nat, j ≤ k ∧ i = .int .i64 j ∧ v = .int .i64 (SpanLaw.nTo d a3 j)) (fun _ i => k - (intOf i).toNat)
      case atStart => exact ⟨0, Nat.zero_le _, rfl, rfl⟩
      case round =>
        obtain ⟨j, hj, rfl, rfl⟩ := hrel
        by_cases hjn : j < k
        · have q0 := HS3.out j hjn
          have S : Hid (SpanLaw.nTo d a3 (j + 1) = if d j ≤ a3 then j else SpanLaw.nTo d a3 j) := rfl
          generalize SpanLaw.nTo d a3 j = p at S
          generalize d j = y at q0 S
          by_cases hx : y ≤ a3
          · go_wp2
            go_round
            case rel => exact ⟨j + 1, by omega, by go_num, by rw [S.out, if_pos hx]⟩
            case measure => simp [intOf]; omega
          · go_wp2
            go_round
            case rel => exact ⟨j + 1, by omega, by go_num, by rw [S.out, if_neg hx]⟩
            case measure => simp [intOf]; omega
        · obtain rfl : j = k := by omega
          rw [HM.out]
          have q0 := HS3.out m hmk
          rcases HU.out with ⟨hu1, hu2⟩ | ⟨hu1, hu2⟩
          · have q1 := HS3.out (m + 1) hu1
            subst hu2
            clear HU HM
            have hz : (m : Int) + 1 < (j : Int) := by omega
            go_wp2
            go_loopw [20] (fun i wx => ∃ x : Nat, x ≤ j ∧ i = .int .i64 x ∧ ∃ q, wx = w3.drewN q) (fun i _ => j - (intOf i).toNat)
            case atStart => exact ⟨0, Nat.zero_le _, rfl, 0, rfl⟩
            case round =>
              obtain ⟨x, hx, rfl, q, rfl⟩ := hrel
              by_cases hxn : x < j
              · have r0 := HS3.out x hxn
                obtain ⟨r1, r2⟩ := HF3.out x hxn
                have hxz : (x : Int) < (j : Int) := by omega
                go_wp2
                go_quiet (fail)
                go_wp2
                go_roundw
                case rel => exact ⟨x + 1, by omega, by go_num, q + nq, rfl⟩
                case measure => simp [intOf]; omega
              · go_wp2
                go_ret
                exact ⟨rfl, below_drewN hbw3 _⟩
          · subst hu2
            clear HU HM
            have hz : ¬ (m : Int) + 1 < (j : Int) := by omega
            go_wp2
            go_loopw [20] (fun i wx => ∃ x : Nat, x ≤ j ∧ i = .int .i64 x ∧ ∃ q, wx = w3.drewN q) (fun i _ => j - (intOf i).toNat)
            case atStart => exact ⟨0, Nat.zero_le _, rfl, 0, rfl⟩
            case round =>
              obtain ⟨x, hx, rfl, q, rfl⟩ := hrel
              by_cases hxn : x < j
              · have r0 := HS3.out x hxn
                obtain ⟨r1, r2⟩ := HF3.out x hxn
                have hxz : (x : Int) < (j : Int) := by omega
                go_wp2
                go_quiet (fail)
                go_wp2
                go_roundw
                case rel => exact ⟨x + 1, by omega, by go_num, q + nq, rfl⟩
                case measure => simp [intOf]; omega
              · go_wp2
                go_ret
                exact ⟨rfl, below_drewN hbw3 _⟩
set_option maxRecDepth 100000 in
theorem walk (a0 : Int) (a1 : Int) (a2 : Option Addr) (len2 cap2 : Nat) (z2 : List Int) (a3 : Int) (a4 : Bool) (w : World) (w0 : (Lit.int .i64 a0).wf = true) (w1 : (Lit.int .i64 a1).wf = true) (w2 : IsRow .i64 w a2 len2 cap2 z2) (w3 : (Lit.int .i64 a3).wf = true) :
    Calls Yba.prog 6 #[.int .i64 a0, .int .i64 a1, .slice a2 len2 cap2, .int .i64 a3, .bool a4] w fun e w' => e = .returned (.bool true) ∧ Below w.heap.size w w' := by
  by_cases h0 : 1024 < len2
  · go_enter Yba.func6, Yba.ntmps6
    go_wp2
    go_ret
    exact ⟨rfl, Below.refl _ _⟩
  · by_cases h1 : len2 = 0
    · subst h1
      have hnl := fun a n c w => Lib.run_eql_slice_nil (P := Yba.prog) w 35 47 a n c 0 0 Yba.underlying35
      go_enter Yba.func6, Yba.ntmps6
      go_wp2
      go_ret
      exact ⟨rfl, by repeat (first | exact Below.refl _ _ | refine Below.alloc ?_ (by simp) _)⟩
    · rcases w2 with ⟨_, h, _⟩ | ⟨x0, rfl, hl0, _, hz0, hc0, hw0⟩
      · omega
      obtain ⟨b0, o0, rfl, k0⟩ := ints_at hc0 (by omega)
      exact walk1 a0 a1 a3 a4 b0 o0 len2 cap2 z2 w (by omega) (by omega) (by omega) (World.block_lt_of_cell? _ _ (k0 0 (by omega))) k0

/-! ### THE ROW's STEP: WRITTEN OUT: LEAVE IT -/
set_option maxRecDepth 100000 in
theorem lifted (os : Os) (started : os.Started) (H : Type) (enc : TypeId × Value → H) :
    ReturnsInHanded {} Yba.checked os 6 .any (Rows.lawS4087CInForceSpec.pre6 enc Yba.prog Yba.f6 Rows.lawS4087CInForceRow.domain false) (Rows.lawS4087CInForceSpec.post enc Yba.prog Yba.f6 false true false false) := by
  refine returnsInHanded_of_change (C := Yba.checked) own started (by kernel_rfl) Yba.func6
    (ChangeSpec.witness6 (enc := enc) (C := Yba.checked) false ⟨#[], #[.int .i64 0, .int .i64 0, .slice none 0 0, .int .i64 0, .bool false], []⟩ 8 (by kernel_rfl) (by kernel_rfl) (by kernel_rfl) (by kernel_rfl)) ?_
  intro W base args ds gs before hval0 hW hcnd _
  have hval : ∀ (j : Nat) t v, Yba.f6.params[j]? = some t → args[j]? = some v → Value.okWide Yba.prog W .any base t v := hval0
  have hW' := hW
  obtain ⟨p, q, hA0, hV, rfl, hfz, hnd⟩ := hW
  have hA : DataW.TrodAll enc Yba.prog W 0 (fun _ => true) true Yba.f6.params.toList args.toList ds p := hA0
  rw [Yba.params6] at hA hval
  obtain ⟨v0, vs0, d0, ds0, p0, q0, hargs, rfl, rfl, h0, r0⟩ := trodAll_cons hA
  obtain ⟨v1, vs1, d1, ds1, p1, q1, rfl, rfl, rfl, h1, r1⟩ := trodAll_cons r0
  obtain ⟨v2, vs2, d2, ds2, p2, q2, rfl, rfl, rfl, h2, r2⟩ := trodAll_cons r1
  obtain ⟨v3, vs3, d3, ds3, p3, q3, rfl, rfl, rfl, h3, r3⟩ := trodAll_cons r2
  obtain ⟨v4, vs4, d4, ds4, p4, q4, rfl, rfl, rfl, h4, r4⟩ := trodAll_cons r3
  obtain ⟨rfl, rfl, rfl⟩ := trodAll_nil r4
  obtain rfl : args = #[v0, v1, v2, v3, v4] := by cases args; simp_all
  obtain ⟨rfl, rfl⟩ := trodVars_none hV
  obtain ⟨a0, rfl, rfl, rfl, w0⟩ := open_int Yba.underlying2 (hval 0 2 v0 rfl rfl) h0
  obtain ⟨a1, rfl, rfl, rfl, w1⟩ := open_int Yba.underlying2 (hval 1 2 v1 rfl rfl) h1
  obtain ⟨a2, len2, cap2, rfl⟩ := okWide_slice Yba.underlying41 (hval 2 41 v2 rfl rfl)
  have k2 := h2
  have lt2 : ∀ x ∈ p2, x.block < W.heap.size := by obtain ⟨m, hm⟩ := k2; exact DataW.trod_lt m _ _ _ hm
  obtain ⟨z2, w2⟩ : ∃ zs, IsRow .i64 W a2 len2 cap2 zs := by
    obtain ⟨fuel, hf⟩ := h2
    rcases open_ints Yba.underlying41 Yba.underlying2 (by kernel_rfl) hf with ⟨hcs, _⟩ | ⟨x, l, c, zs, hcs, _, hl, hm, hz, _, hcell, hwz⟩
    · simp [Value.cells] at hcs
      obtain ⟨rfl, rfl, rfl⟩ := hcs
      exact ⟨[], .inl ⟨rfl, rfl, rfl, rfl⟩⟩
    · simp [Value.cells] at hcs
      obtain ⟨rfl, rfl, rfl⟩ := hcs
      exact ⟨zs, .inr ⟨_, rfl, hl, hm, by simpa using hz, hcell, hwz⟩⟩
  obtain ⟨a3, rfl, rfl, rfl, w3⟩ := open_int Yba.underlying2 (hval 3 2 v3 rfl rfl) h3
  obtain ⟨a4, rfl, rfl, rfl⟩ := open_bool Yba.underlying4 (hval 4 4 v4 rfl rfl) h4
  clear hA0 hval0
  refine (walk a0 a1 a2 len2 cap2 z2 a3 a4 W w0 w1 w2 w3).mono fun e W' ⟨he, bel⟩ => ?_
  subst he
  exact ⟨_, rfl, _, _, _, [], _, [], hW', trodAll_mk1 (shut_bool Yba.underlying4 _), (trodAll_cons_mk (shut_int Yba.underlying2 w0) (trodAll_cons_mk (shut_int Yba.underlying2 w1) (trodAll_cons_mk (Below.trod laidOut (by kernel_rfl) (of_decide_eq_true (by kernel_rfl)) k2 bel lt2) (trodAll_cons_mk (shut_int Yba.underlying2 w3) (trodAll_cons_mk (shut_bool Yba.underlying4 _) trodAll_mk0))))), rfl, bel.frame _, fun h => by cases h⟩

theorem over : Rows.lawS4087CInForceRow.holds Yba.pinned (OpenSpec.ofChange Rows.lawS4087CInForceSpec) :=
  OpenClaim.holds_of_wide 6 Yba.f6 rfl rfl rfl rfl rfl rfl rfl ⟨rfl, rfl, rfl, rfl, rfl⟩ rfl rfl rfl rfl rfl (by kernel_rfl) Yba.func6 (by kernel_rfl)
    (of_decide_eq_true (by kernel_rfl)) (by unfold Func.isWrapper; first | (rw [if_pos (by decide +kernel)]; kernel_rfl) | (rw [if_neg (by decide +kernel)]; exact ⟨rfl, rfl⟩))
    (fun os started H enc _ => lifted os started H enc)

/-- ████ THE STATEMENT ████ -/
theorem proved : Rows.LawS4087CInForceSaid := over
end Go.Proofs.Ybulkcfps.lawS4087CInForce
