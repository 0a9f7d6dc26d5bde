/- A proof of Rows.LawS4089BIntSaid: the seat's shell, its hole filled. -/
import Derived.Test.YbulkcfquRows
import Derived.WalkKit
import Derived.ProofKit
import Derived.OpenShut
import Derived.ShutString
import Derived.ChangeOld
import Derived.Below
import Derived.Test.YbulkcfquMapLaw
import Derived.WalkSpells
import Derived.RegionTactic
import Derived.Maps.OwnSet
namespace Go.Proofs.Ybulkcfqu.lawS4089BInt
open Go.ChangeShapes Go.WideShapes Go.ChangeAt Go.RowKit
open Go.ChangeMaps (open_string shut_string)
set_option linter.unusedVariables false

theorem own : ownKnob Yba.prog.godebug = none := by kernel_rfl
theorem laidOut : laidOutB Yba.prog = true := by kernel_rfl

/-- WHAT THE WALK IS TOLD OF A SLICE OF INTEGERS THAT CAME IN: it is nil; or it leads to a row of 'cap' cells, the numbers 'zs' (the first 'len' are its elements, the rest its spare room), each fitting its kind. -/
def IsRow (k : IntKind) (w : World) (a : Option Addr) (len cap : Nat) (zs : List Int) : Prop :=
  (a = none ∧ len = 0 ∧ cap = 0 ∧ zs = []) ∨
  ∃ x, a = some x ∧ len ≤ cap ∧ cap ≤ maxLen ∧ zs.length = cap ∧ (∀ i, i < zs.length → w.cell? (x.add i) = some (.int k (zs.getD i 0))) ∧ ∀ n ∈ zs, (Lit.int k n).wf = true

open Go.Maps MapLaw
theorem getD_mem (l : List Int) (i : Nat) (h : i < l.length) : l.getD i 0 ∈ l := by
  rw [List.getD, List.getElem?_eq_getElem h]; simp
theorem law27 : Keyed Yba.prog 3 := int_keyed Yba.underlying3
theorem zero3 (w : World) : (zeroValue 3).run Yba.prog w = .ok (.int .i64 0) w := by kernel_rfl
/-- make(map[int]int, n): the hint is an int, nothing more is asked of it. -/
theorem make27 (n : Int) (w : World) : (Instr.makeMap 27 (some (.int .i64 n))).run Yba.prog w = .ok (.map (some w.heap.size)) (w.alloc (.map #[] 0)) := by
  simp [Instr.makeMap, run_underlying Yba.underlying27]
  rfl

/-- index[int] at a map that reads as D: the key is there. -/
theorem index_yes (w : World) (B n : Nat) (D : DataW Unit) (k c : Int) (hown : w.ownsMap Yba.prog 3 (plainElem Yba.prog 3) B n D) (hk : (Lit.int .i64 k).wf = true) (hh : Maps.has D (.int .i64 k) = true) (ha : ∀ z, D.atKey (.int .i64 k) z = .lit (.int .i64 c)) :
    Calls Yba.prog 6 #[.map (some B), .int .i64 k] w fun e w' => e = .returned (.int .i64 c) ∧ w = w' := by
  obtain ⟨v, ps, hrun, hv⟩ := hown.look_ok law27 Yba.underlying27 (zero3 w) (plainElem_int Yba.underlying3 (by decide)) (keyOf_int_mk Yba.underlying3 hk)
  rw [hh] at hrun
  rw [ha] at hv
  obtain ⟨c', rfl, e, _⟩ := plainElem_int_inv Yba.underlying3 hv
  simp at e
  obtain ⟨rfl, _⟩ := e
  clear hown hh ha hv
  go_enter Yba.func6, Yba.ntmps6
  go_wp2
  go_ret
  exact ⟨rfl, rfl⟩

/-- .. it is not. -/
theorem index_no (w : World) (B n : Nat) (D : DataW Unit) (k : Int) (hown : w.ownsMap Yba.prog 3 (plainElem Yba.prog 3) B n D) (hk : (Lit.int .i64 k).wf = true) (hh : Maps.has D (.int .i64 k) = false) :
    Calls Yba.prog 6 #[.map (some B), .int .i64 k] w fun e w' => e = .returned (.int .i64 (-1)) ∧ w = w' := by
  obtain ⟨v, ps, hrun, hv⟩ := hown.look_ok law27 Yba.underlying27 (zero3 w) (plainElem_int Yba.underlying3 (by decide)) (keyOf_int_mk Yba.underlying3 hk)
  rw [hh] at hrun
  obtain ⟨c', rfl, e, _⟩ := plainElem_int_inv Yba.underlying3 hv
  clear hown hh hv e
  go_enter Yba.func6, Yba.ntmps6
  go_wp2
  go_ret
  exact ⟨rfl, rfl⟩

/-- .. at a nil map. -/
theorem index_nil (w : World) (k : Int) (hk : (Lit.int .i64 k).wf = true) :
    Calls Yba.prog 6 #[.map none, .int .i64 k] w fun e w' => e = .returned (.int .i64 (-1)) ∧ w = w' := by
  have hrun := Maps.look_nil true (w := w) law27 Yba.underlying27 (zero3 w) (keyOf_int_mk Yba.underlying3 hk)
  simp only [if_true] at hrun
  go_enter Yba.func6, Yba.ntmps6
  go_wp2
  go_ret
  exact ⟨rfl, rfl⟩

theorem walk0 (a0 : Option Addr) (len0 cap0 : Nat) (a1 : Option Addr) (len1 cap1 : Nat) (a2 : Int) (w : World) (h0 : len0 ≤ 1024) (h1 : len1 ≤ 1024) (h2 : len0 = 0 ∨ len1 = 0) (w2 : (Lit.int .i64 a2).wf = true) :
    Calls Yba.prog 4 #[.slice a0 len0 cap0, .slice a1 len1 cap1, .int .i64 a2] w fun e w' => e = .returned (.bool true) ∧ Below w.heap.size w w' := by
  by_cases hlt : len1 < len0
  · obtain rfl : len1 = 0 := by omega
    go_enter Yba.func4, Yba.ntmps4
    go_wp2
    refine wp_loop_rounds 1 ?_
    rw [rounds_succ]
    go_wp2
    refine wp_loop_rounds 1 ?_
    rw [rounds_succ]
    go_wp2_with (go_at_call 6; refine (index_nil _ _ w2).mono ?_; rintro e w' ⟨rfl, rfl⟩)
    go_ret
    exact ⟨rfl, Below.refl _ _⟩
  · obtain rfl : len0 = 0 := by omega
    go_enter Yba.func4, Yba.ntmps4
    go_wp2
    refine wp_loop_rounds 1 ?_
    rw [rounds_succ]
    go_wp2
    refine wp_loop_rounds 1 ?_
    rw [rounds_succ]
    go_wp2_with (go_at_call 6; refine (index_nil _ _ w2).mono ?_; rintro e w' ⟨rfl, rfl⟩)
    go_ret
    exact ⟨rfl, Below.refl _ _⟩

set_option maxHeartbeats 1000000 in
set_option maxRecDepth 100000 in
theorem walk1 (b0 o0 len0 cap0 : Nat) (z0 : List Int) (b1 o1 len1 cap1 : Nat) (z1 : List Int) (a2 : Int) (n : Nat) (w : World)
    (hb0 : b0 < w.heap.size) (hb1 : b1 < w.heap.size) (hn : 0 < n) (hn2 : n ≤ 1024) (h0 : len0 ≤ 1024) (h1 : len1 ≤ 1024)
    (c0 : ∀ i, i < n → w.cell? ⟨b0, o0 + i, none⟩ = some (.int .i64 (z0.getD i 0))) (c1 : ∀ i, i < n → w.cell? ⟨b1, o1 + i, none⟩ = some (.int .i64 (z1.getD i 0)))
    (f0 : ∀ i, i < n → (Lit.int .i64 (z0.getD i 0)).wf = true) (f1 : ∀ i, i < n → (Lit.int .i64 (z1.getD i 0)).wf = true)
    (hcase : (len1 < len0 ∧ n = len1) ∨ (¬ len1 < len0 ∧ n = len0)) (w2 : (Lit.int .i64 a2).wf = true) :
    Calls Yba.prog 4 #[.slice (some ⟨b0, o0, none⟩) len0 cap0, .slice (some ⟨b1, o1, none⟩) len1 cap1, .int .i64 a2] w fun e w' => e = .returned (.bool true) ∧ Below w.heap.size w w' := by
  have hle0 : n ≤ len0 := by omega
  have hle1 : n ≤ len1 := by omega
  have mk := make27
  have d0 : decide ((1024 : Int) < (len0 : Int)) = false := by simp; omega
  have d1 : decide ((1024 : Int) < (len1 : Int)) = false := by simp; omega
  rcases hcase with ⟨hlt, e⟩ | ⟨hlt, e⟩ <;> subst e
  all_goals
    go_enter Yba.func4, Yba.ntmps4
    go_wp2
    go_loopw [9] (fun i wr => ∃ k : Nat, k ≤ n ∧ i = .int .i64 k ∧ wr.ownsMap Yba.prog 3 (plainElem Yba.prog 3) w.heap.size k (putTo (fun i => .int .i64 (z0.getD i 0)) (fun i => z1.getD i 0) k) ∧ Below w.heap.size w wr)
      (fun i _ => n - (intOf i).toNat)
    case atStart => exact ⟨0, Nat.zero_le _, rfl, World.ownsMap_made _ _ _ _, (Below.refl _ _).alloc (Nat.le_refl _) _⟩
    case round =>
      obtain ⟨k, hk, rfl, hown, hnx⟩ := hrel
      by_cases hkn : k < n
      · have q0 := (hnx.cell (p := ⟨b0, o0 + k, none⟩) (by exact hb0)).trans (c0 k hkn)
        have q1 := (hnx.cell (p := ⟨b1, o1 + k, none⟩) (by exact hb1)).trans (c1 k hkn)
        obtain ⟨w1, hrun, hown1, hgrow1⟩ := hown.drew.update law27 Yba.underlying27 (by unfold maxLen; omega) (keyOf_int_mk Yba.underlying3 (f0 k hkn)) (plainElem_int Yba.underlying3 (f1 k hkn))
        have R1 : w1.ownsMap Yba.prog 3 (plainElem Yba.prog 3) w.heap.size (k + 1) (putTo (fun i => .int .i64 (z0.getD i 0)) (fun i => z1.getD i 0) (k + 1)) := hown1
        have R2 : Below w.heap.size w w1 := hnx.drew.grown hgrow1 hnx.size (fun j hj => by cases hj; exact Nat.le_refl _)
        clear hown1 hgrow1 hown hnx c0 c1 f0 f1
        have hk0 : n ≤ n := Nat.le_refl n
        generalize z0.getD k 0 = x at q0 hrun
        generalize z1.getD k 0 = y at q1 hrun
        go_wp2
        go_region
        go_wp2
        go_roundw
        case rel => exact ⟨k + 1, by omega, by go_num, R1, R2⟩
        case measure => simp [intOf]; omega
      · obtain rfl : k = n := by omega
        have L := law (fun i => .int .i64 (z0.getD i 0)) (fun i => z1.getD i 0) (fun i => z0.getD i 0 == a2) (.int .i64 a2) k (isKey_int _ _) (fun i _ => by simp)
        have hwk : (Lit.int .i64 a2).wf = true := w2
        go_wp2
        go_loop [10, 11] (fun v i => ∃ j : Nat, j ≤ k ∧ i = .int .i64 j ∧ v = .int .i64 (wantTo (fun i => z0.getD i 0 == a2) (fun i => z1.getD i 0) j)) (fun _ i => k - (intOf i).toNat)
        case atStart => exact ⟨0, Nat.zero_le _, rfl, rfl⟩
        case round =>
          obtain ⟨j, hj, rfl, rfl⟩ := hrel
          by_cases hjn : j < k
          · have q0 := (hnx.cell (p := ⟨b0, o0 + j, none⟩) (by exact hb0)).trans (c0 j hjn)
            have q1 := (hnx.cell (p := ⟨b1, o1 + j, none⟩) (by exact hb1)).trans (c1 j hjn)
            have S : Hid (wantTo (fun i => z0.getD i 0 == a2) (fun i => z1.getD i 0) (j + 1) = if (z0.getD j 0 == a2) = true then z1.getD j 0 else wantTo (fun i => z0.getD i 0 == a2) (fun i => z1.getD i 0) j) := rfl
            clear hown hnx c0 c1 f0 f1 L
            generalize z0.getD j 0 = x at q0 S
            generalize z1.getD j 0 = y at q1 S
            generalize wantTo (fun i => z0.getD i 0 == a2) (fun i => z1.getD i 0) j = v0 at S
            by_cases hx : (x == a2) = true
            · go_wp2
              go_round
              case rel => exact ⟨j + 1, by omega, by go_num, by rw [S.out, if_pos hx]⟩
              case measure => simp [intOf]; omega
            · have hx' : (x == a2) = false := by simpa using hx
              go_wp2
              go_round
              case rel => exact ⟨j + 1, by omega, by go_num, by rw [S.out, if_neg hx]⟩
              case measure => simp [intOf]; omega
          · obtain rfl : j = k := by omega
            generalize hD : putTo (fun i => Lit.int .i64 (z0.getD i 0)) (fun i => z1.getD i 0) j = D at hown L
            generalize hV : wantTo (fun i => z0.getD i 0 == a2) (fun i => z1.getD i 0) j = V at L ⊢
            clear hD hV c0 c1 f0 f1
            rcases L with ⟨L1, L2⟩ | ⟨L1, L2⟩
            · have hix := index_yes wr w.heap.size j D a2 V hown w2 L1 L2
              clear L1 L2 hown
              go_wp2_with (go_at_call 6; refine hix.mono ?_; rintro e w' ⟨rfl, rfl⟩)
              go_ret
              exact ⟨rfl, hnx⟩
            · have hix := index_no wr w.heap.size j D a2 hown w2 L1
              subst L2
              clear L1 hown
              go_wp2_with (go_at_call 6; refine hix.mono ?_; rintro e w' ⟨rfl, rfl⟩)
              go_ret
              exact ⟨rfl, hnx⟩
theorem walk (a0 : Option Addr) (len0 cap0 : Nat) (z0 : List Int) (a1 : Option Addr) (len1 cap1 : Nat) (z1 : List Int) (a2 : Int) (w : World) (w0 : IsRow .i64 w a0 len0 cap0 z0) (w1 : IsRow .i64 w a1 len1 cap1 z1) (w2 : (Lit.int .i64 a2).wf = true) :
    Calls Yba.prog 4 #[.slice a0 len0 cap0, .slice a1 len1 cap1, .int .i64 a2] w fun e w' => e = .returned (.bool true) ∧ Below w.heap.size w w' := by
  by_cases h0 : 1024 < len0
  · go_enter Yba.func4, Yba.ntmps4
    go_wp2
    go_ret
    exact ⟨rfl, Below.refl _ _⟩
  · by_cases h1 : 1024 < len1
    · go_enter Yba.func4, Yba.ntmps4
      go_wp2
      go_ret
      exact ⟨rfl, Below.refl _ _⟩
    · by_cases h2 : len0 = 0 ∨ len1 = 0
      · exact walk0 a0 len0 cap0 a1 len1 cap1 a2 w (by omega) (by omega) h2 w2
      · rcases w0 with ⟨_, h, _⟩ | ⟨x0, rfl, hl0, _, hz0, hc0, hw0⟩
        · omega
        rcases w1 with ⟨_, h, _⟩ | ⟨x1, rfl, hl1, _, hz1, hc1, hw1⟩
        · omega
        obtain ⟨b0, o0, rfl, k0⟩ := ints_at hc0 (by omega)
        obtain ⟨b1, o1, rfl, k1⟩ := ints_at hc1 (by omega)
        have e0 : ∀ i, i < z0.length → (Lit.int .i64 (z0.getD i 0)).wf = true := fun i hi => hw0 _ (getD_mem _ _ hi)
        have e1 : ∀ i, i < z1.length → (Lit.int .i64 (z1.getD i 0)).wf = true := fun i hi => hw1 _ (getD_mem _ _ hi)
        by_cases hlt : len1 < len0
        · exact walk1 b0 o0 len0 cap0 z0 b1 o1 len1 cap1 z1 a2 len1 w (World.block_lt_of_cell? _ _ (k0 0 (by omega))) (World.block_lt_of_cell? _ _ (k1 0 (by omega))) (by omega) (by omega) (by omega) (by omega)
            (fun i hi => k0 i (by omega)) (fun i hi => k1 i (by omega)) (fun i hi => e0 i (by omega)) (fun i hi => e1 i (by omega)) (.inl ⟨hlt, rfl⟩) w2
        · exact walk1 b0 o0 len0 cap0 z0 b1 o1 len1 cap1 z1 a2 len0 w (World.block_lt_of_cell? _ _ (k0 0 (by omega))) (World.block_lt_of_cell? _ _ (k1 0 (by omega))) (by omega) (by omega) (by omega) (by omega)
            (fun i hi => k0 i (by omega)) (fun i hi => k1 i (by omega)) (fun i hi => e0 i (by omega)) (fun i hi => e1 i (by omega)) (.inr ⟨hlt, rfl⟩) w2

/-! ### THE ROW's STEP: WRITTEN OUT: LEAVE IT -/
set_option maxRecDepth 100000 in
theorem lifted (os : Os) (started : os.Started) (H : Type) (enc : TypeId × Value → H) :
    ReturnsInHanded {} Yba.checked os 4 .any (Rows.lawS4089BIntSpec.pre6 enc Yba.prog Yba.f4 Rows.lawS4089BIntRow.domain false) (Rows.lawS4089BIntSpec.post enc Yba.prog Yba.f4 false true false false) := by
  refine returnsInHanded_of_change (C := Yba.checked) own started (by kernel_rfl) Yba.func4
    (ChangeSpec.witness6 (enc := enc) (C := Yba.checked) false ⟨#[], #[.slice none 0 0, .slice none 0 0, .int .i64 0], []⟩ 8 (by kernel_rfl) (by kernel_rfl) (by kernel_rfl) (by kernel_rfl)) ?_
  intro W base args ds gs before hval0 hW hcnd _
  have hval : ∀ (j : Nat) t v, Yba.f4.params[j]? = some t → args[j]? = some v → Value.okWide Yba.prog W .any base t v := hval0
  have hW' := hW
  obtain ⟨p, q, hA0, hV, rfl, hfz, hnd⟩ := hW
  have hA : DataW.TrodAll enc Yba.prog W 0 (fun _ => true) true Yba.f4.params.toList args.toList ds p := hA0
  rw [Yba.params4] at hA hval
  obtain ⟨v0, vs0, d0, ds0, p0, q0, hargs, rfl, rfl, h0, r0⟩ := trodAll_cons hA
  obtain ⟨v1, vs1, d1, ds1, p1, q1, rfl, rfl, rfl, h1, r1⟩ := trodAll_cons r0
  obtain ⟨v2, vs2, d2, ds2, p2, q2, rfl, rfl, rfl, h2, r2⟩ := trodAll_cons r1
  obtain ⟨rfl, rfl, rfl⟩ := trodAll_nil r2
  obtain rfl : args = #[v0, v1, v2] := by cases args; simp_all
  obtain ⟨rfl, rfl⟩ := trodVars_none hV
  obtain ⟨a0, len0, cap0, rfl⟩ := okWide_slice Yba.underlying23 (hval 0 23 v0 rfl rfl)
  have k0 := h0
  have lt0 : ∀ x ∈ p0, x.block < W.heap.size := by obtain ⟨m, hm⟩ := k0; exact DataW.trod_lt m _ _ _ hm
  obtain ⟨z0, w0⟩ : ∃ zs, IsRow .i64 W a0 len0 cap0 zs := by
    obtain ⟨fuel, hf⟩ := h0
    rcases open_ints Yba.underlying23 Yba.underlying3 (by kernel_rfl) hf with ⟨hcs, _⟩ | ⟨x, l, c, zs, hcs, _, hl, hm, hz, _, hcell, hwz⟩
    · simp [Value.cells] at hcs
      obtain ⟨rfl, rfl, rfl⟩ := hcs
      exact ⟨[], .inl ⟨rfl, rfl, rfl, rfl⟩⟩
    · simp [Value.cells] at hcs
      obtain ⟨rfl, rfl, rfl⟩ := hcs
      exact ⟨zs, .inr ⟨_, rfl, hl, hm, by simpa using hz, hcell, hwz⟩⟩
  obtain ⟨a1, len1, cap1, rfl⟩ := okWide_slice Yba.underlying23 (hval 1 23 v1 rfl rfl)
  have k1 := h1
  have lt1 : ∀ x ∈ p1, x.block < W.heap.size := by obtain ⟨m, hm⟩ := k1; exact DataW.trod_lt m _ _ _ hm
  obtain ⟨z1, w1⟩ : ∃ zs, IsRow .i64 W a1 len1 cap1 zs := by
    obtain ⟨fuel, hf⟩ := h1
    rcases open_ints Yba.underlying23 Yba.underlying3 (by kernel_rfl) hf with ⟨hcs, _⟩ | ⟨x, l, c, zs, hcs, _, hl, hm, hz, _, hcell, hwz⟩
    · simp [Value.cells] at hcs
      obtain ⟨rfl, rfl, rfl⟩ := hcs
      exact ⟨[], .inl ⟨rfl, rfl, rfl, rfl⟩⟩
    · simp [Value.cells] at hcs
      obtain ⟨rfl, rfl, rfl⟩ := hcs
      exact ⟨zs, .inr ⟨_, rfl, hl, hm, by simpa using hz, hcell, hwz⟩⟩
  obtain ⟨a2, rfl, rfl, rfl, w2⟩ := open_int Yba.underlying3 (hval 2 3 v2 rfl rfl) h2
  clear hA0 hval0
  refine (walk a0 len0 cap0 z0 a1 len1 cap1 z1 a2 W w0 w1 w2).mono fun e W' ⟨he, bel⟩ => ?_
  subst he
  exact ⟨_, rfl, _, _, _, [], _, [], hW', trodAll_mk1 (shut_bool Yba.underlying4 _), (trodAll_cons_mk (Below.trod laidOut (by kernel_rfl) (of_decide_eq_true (by kernel_rfl)) k0 bel lt0) (trodAll_cons_mk (Below.trod laidOut (by kernel_rfl) (of_decide_eq_true (by kernel_rfl)) k1 bel lt1) (trodAll_cons_mk (shut_int Yba.underlying3 w2) trodAll_mk0))), rfl, bel.frame _, fun h => by cases h⟩

theorem over : Rows.lawS4089BIntRow.holds Yba.pinned (OpenSpec.ofChange Rows.lawS4089BIntSpec) :=
  OpenClaim.holds_of_wide 4 Yba.f4 rfl rfl rfl rfl rfl rfl rfl ⟨rfl, rfl, rfl, rfl, rfl⟩ rfl rfl rfl rfl rfl (by kernel_rfl) Yba.func4 (by kernel_rfl)
    (of_decide_eq_true (by kernel_rfl)) (by unfold Func.isWrapper; first | (rw [if_pos (by decide +kernel)]; kernel_rfl) | (rw [if_neg (by decide +kernel)]; exact ⟨rfl, rfl⟩))
    (fun os started H enc _ => lifted os started H enc)

/-- ████ THE STATEMENT ████ -/
theorem proved : Rows.LawS4089BIntSaid := over
end Go.Proofs.Ybulkcfqu.lawS4089BInt
