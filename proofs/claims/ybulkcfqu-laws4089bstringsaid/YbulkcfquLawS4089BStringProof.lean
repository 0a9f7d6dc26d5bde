/- A proof of Rows.LawS4089BStringSaid. -/
import Derived.Test.YbulkcfquRows
import Derived.Test.YbulkcfquMapLaw
import Derived.WalkKit
import Derived.ProofKit
import Derived.OpenShut
import Derived.ShutString
import Derived.ChangeOld
import Derived.Below
import Derived.WalkSpells
import Derived.RegionTactic
import Derived.Maps.OwnSet
namespace Go.Proofs.Ybulkcfqu.lawS4089BString
open Go.ChangeShapes Go.WideShapes Go.ChangeAt Go.RowKit Go.Maps MapLaw
open Go.ChangeMaps (open_string shut_string)
set_option linter.unusedVariables false

theorem own : ownKnob Yba.prog.godebug = none := by kernel_rfl
theorem laidOut : laidOutB Yba.prog = true := by kernel_rfl

/-- A slice of integers that came in: nil; or a row of 'cap' cells, the numbers 'zs'. -/
def IsRow (k : IntKind) (w : World) (a : Option Addr) (len cap : Nat) (zs : List Int) : Prop :=
  (a = none ∧ len = 0 ∧ cap = 0 ∧ zs = []) ∨
  ∃ x, a = some x ∧ len ≤ cap ∧ cap ≤ maxLen ∧ zs.length = cap ∧ (∀ i, i < zs.length → w.cell? (x.add i) = some (.int k (zs.getD i 0))) ∧ ∀ n ∈ zs, (Lit.int k n).wf = true
/-- A slice of strings that came in: likewise. -/
def IsStrs (w : World) (a : Option Addr) (len cap : Nat) (zs : List ByteArray) : Prop :=
  (a = none ∧ len = 0 ∧ cap = 0 ∧ zs = []) ∨
  ∃ x, a = some x ∧ len ≤ cap ∧ cap ≤ maxLen ∧ zs.length = cap ∧ (∀ i, i < zs.length → w.cell? (x.add i) = some (.string (zs.getD i ByteArray.empty))) ∧ ∀ s ∈ zs, s.size ≤ maxLen

theorem hit_iff (a b : ByteArray) : ((a.toList == b.toList) = true ↔ Lit.string a.data.toList = .string b.data.toList) := by
  rw [ByteArray.toList_eq, ByteArray.toList_eq]; simp
theorem law24 : Keyed Yba.prog 9 := string_keyed Yba.underlying9
theorem zero3 (w : World) : (zeroValue 3).run Yba.prog w = .ok (.int .i64 0) w := by kernel_rfl
/-- make(map[string]int, n): the hint is an int, nothing more is asked of it. -/
theorem make24 (n : Int) (w : World) : (Instr.makeMap 24 (some (.int .i64 n))).run Yba.prog w = .ok (.map (some w.heap.size)) (w.alloc (.map #[] 0)) := by
  simp [Instr.makeMap, run_underlying Yba.underlying24]
  rfl

/-- index[string] at a map that reads as D: the key is there. -/
theorem index_yes (w : World) (B n : Nat) (D : DataW Unit) (k : ByteArray) (c : Int) (hown : w.ownsMap Yba.prog 9 (plainElem Yba.prog 3) B n D) (hk : k.size ≤ maxLen) (hh : Maps.has D (.string k.data.toList) = true) (ha : ∀ z, D.atKey (.string k.data.toList) z = .lit (.int .i64 c)) :
    Calls Yba.prog 5 #[.map (some B), .string k] w fun e w' => e = .returned (.int .i64 c) ∧ w = w' := by
  obtain ⟨v, ps, hrun, hv⟩ := hown.look_ok law24 Yba.underlying24 (zero3 w) (plainElem_int Yba.underlying3 (by decide)) (Go.WideMaps.keyOf_string_mk Yba.underlying9 hk)
  rw [hh] at hrun
  rw [ha] at hv
  obtain ⟨c', rfl, e, _⟩ := plainElem_int_inv Yba.underlying3 hv
  simp at e
  obtain ⟨rfl, _⟩ := e
  clear hown hh ha hv
  go_enter Yba.func5, Yba.ntmps5
  go_wp2
  go_ret
  exact ⟨rfl, rfl⟩

/-- .. it is not. -/
theorem index_no (w : World) (B n : Nat) (D : DataW Unit) (k : ByteArray) (hown : w.ownsMap Yba.prog 9 (plainElem Yba.prog 3) B n D) (hk : k.size ≤ maxLen) (hh : Maps.has D (.string k.data.toList) = false) :
    Calls Yba.prog 5 #[.map (some B), .string k] w fun e w' => e = .returned (.int .i64 (-1)) ∧ w = w' := by
  obtain ⟨v, ps, hrun, hv⟩ := hown.look_ok law24 Yba.underlying24 (zero3 w) (plainElem_int Yba.underlying3 (by decide)) (Go.WideMaps.keyOf_string_mk Yba.underlying9 hk)
  rw [hh] at hrun
  obtain ⟨c', rfl, e, _⟩ := plainElem_int_inv Yba.underlying3 hv
  clear hown hh hv e
  go_enter Yba.func5, Yba.ntmps5
  go_wp2
  go_ret
  exact ⟨rfl, rfl⟩

set_option maxRecDepth 100000 in
theorem walk0 (a0 : Option Addr) (len0 cap0 : Nat) (a1 : Option Addr) (len1 cap1 : Nat) (k : ByteArray) (sel : Int) (w : World) (h0 : len0 ≤ 1024) (h1 : len1 ≤ 1024) (h2 : len0 = 0 ∨ len1 = 0) (w2 : k.size ≤ maxLen) :
    Calls Yba.prog 3 #[.slice a0 len0 cap0, .slice a1 len1 cap1, .string k, .int .u8 sel] w fun e w' => e = .returned (.bool true) ∧ Below w.heap.size w w' := by
  have mk := make24
  have hix := index_no (w.alloc (.map #[] 0)) w.heap.size 0 (.map []) k (World.ownsMap_made _ _ _ _) w2 rfl
  by_cases hlt : len1 < len0
  · obtain rfl : len1 = 0 := by omega
    go_enter Yba.func3, Yba.ntmps3
    go_wp2
    refine wp_loop_rounds 1 ?_
    rw [rounds_succ]
    go_wp2
    refine wp_loop_rounds 1 ?_
    rw [rounds_succ]
    go_wp2_with (go_at_call 5; refine hix.mono ?_; rintro e w' ⟨rfl, rfl⟩)
    go_ret
    exact ⟨rfl, (Below.refl _ _).alloc (Nat.le_refl _) _⟩
  · obtain rfl : len0 = 0 := by omega
    go_enter Yba.func3, Yba.ntmps3
    go_wp2
    refine wp_loop_rounds 1 ?_
    rw [rounds_succ]
    go_wp2
    refine wp_loop_rounds 1 ?_
    rw [rounds_succ]
    go_wp2_with (go_at_call 5; refine hix.mono ?_; rintro e w' ⟨rfl, rfl⟩)
    go_ret
    exact ⟨rfl, (Below.refl _ _).alloc (Nat.le_refl _) _⟩

set_option maxHeartbeats 1000000 in
set_option maxRecDepth 100000 in
theorem walk1 (b0 o0 len0 cap0 : Nat) (z0 : List ByteArray) (b1 o1 len1 cap1 : Nat) (z1 : List Int) (k key : ByteArray) (sel : Nat) (n : Nat) (w : World)
    (hb0 : b0 < w.heap.size) (hb1 : b1 < w.heap.size) (hn : 0 < n) (hn2 : n ≤ 1024) (h0 : len0 ≤ 1024) (h1 : len1 ≤ 1024)
    (c0 : ∀ i, i < n → w.cell? ⟨b0, o0 + i, none⟩ = some (.string (z0.getD i ByteArray.empty))) (c1 : ∀ i, i < n → w.cell? ⟨b1, o1 + i, none⟩ = some (.int .i64 (z1.getD i 0)))
    (f0 : ∀ i, i < n → (z0.getD i ByteArray.empty).size ≤ maxLen) (f1 : ∀ i, i < n → (Lit.int .i64 (z1.getD i 0)).wf = true)
    (hcase : (len1 < len0 ∧ n = len1) ∨ (¬ len1 < len0 ∧ n = len0)) (hs : sel ≤ 255)
    (hsel : (sel % 2 ≠ 0 ∧ key = k) ∨ (sel % 2 = 0 ∧ w.cell? ⟨b0, o0 + sel / 2 % n, none⟩ = some (.string key))) (w2 : key.size ≤ maxLen) :
    Calls Yba.prog 3 #[.slice (some ⟨b0, o0, none⟩) len0 cap0, .slice (some ⟨b1, o1, none⟩) len1 cap1, .string k, .int .u8 sel] w fun e w' => e = .returned (.bool true) ∧ Below w.heap.size w w' := by
  have hle0 : n ≤ len0 := by omega
  have hle1 : n ≤ len1 := by omega
  have mk := make24
  have d0 : decide ((1024 : Int) < (len0 : Int)) = false := by simp; omega
  have d1 : decide ((1024 : Int) < (len1 : Int)) = false := by simp; omega
  have C0 : Hid (∀ i, i < n → w.cell? ⟨b0, o0 + i, none⟩ = some (.string (z0.getD i ByteArray.empty))) := c0
  clear c0
  have hlt3 : sel / 2 % n < n := Nat.mod_lt _ hn
  have hd2 : (0 : Int) < (n : Int) := by omega
  have hi1 : (0 : Int) ≤ (sel : Int) / 2 % (n : Int) := Int.emod_nonneg _ (by omega)
  have hi2 : (sel : Int) / 2 % (n : Int) < (n : Int) := Int.emod_lt_of_pos _ hd2
  have hi3 : (sel : Int) / 2 % (n : Int) < (len0 : Int) := by omega
  rcases hsel with ⟨hs1, e2⟩ | ⟨hs1, hck⟩
  · have hq : ((sel : Int) % 2 == 0) = false := by simp; omega
    subst e2
    rcases hcase with ⟨hlt, e⟩ | ⟨hlt, e⟩ <;> subst e
    · go_enter Yba.func3, Yba.ntmps3
      go_wp2
      clear hs1 hlt3 hi1 hi2 hi3
      go_loopw [12] (fun i wr => ∃ k : Nat, k ≤ n ∧ i = .int .i64 k ∧ wr.ownsMap Yba.prog 9 (plainElem Yba.prog 3) w.heap.size k (putTo (fun i => .string (z0.getD i ByteArray.empty).data.toList) (fun i => z1.getD i 0) k) ∧ Below w.heap.size w wr)
        (fun i _ => n - (intOf i).toNat)
      case atStart => exact ⟨0, Nat.zero_le _, rfl, World.ownsMap_made _ _ _ _, (Below.refl _ _).alloc (Nat.le_refl _) _⟩
      case round =>
        obtain ⟨k, hk, rfl, hown, hnx⟩ := hrel
        by_cases hkn : k < n
        · have q0 := (hnx.cell (p := ⟨b0, o0 + k, none⟩) (by exact hb0)).trans (C0.out k hkn)
          have q1 := (hnx.cell (p := ⟨b1, o1 + k, none⟩) (by exact hb1)).trans (c1 k hkn)
          obtain ⟨w1, hrun, hown1, hgrow1⟩ := hown.drew.update law24 Yba.underlying24 (by unfold maxLen; omega) (Go.WideMaps.keyOf_string_mk Yba.underlying9 (f0 k hkn)) (plainElem_int Yba.underlying3 (f1 k hkn))
          have R1 : w1.ownsMap Yba.prog 9 (plainElem Yba.prog 3) w.heap.size (k + 1) (putTo (fun i => .string (z0.getD i ByteArray.empty).data.toList) (fun i => z1.getD i 0) (k + 1)) := hown1
          have R2 : Below w.heap.size w w1 := hnx.drew.grown hgrow1 hnx.size (fun j hj => by cases hj; exact Nat.le_refl _)
          clear hown1 hgrow1 hown hnx C0 c1 f0 f1
          generalize z0.getD k ByteArray.empty = x at q0 hrun
          generalize z1.getD k 0 = y at q1 hrun
          go_wp2
          go_region
          go_wp2
          go_roundw
          case rel => exact ⟨k + 1, by omega, by go_num, R1, R2⟩
          case measure => simp [intOf]; omega
        · obtain rfl : k = n := by omega
          have L := law (fun i => .string (z0.getD i ByteArray.empty).data.toList) (fun i => z1.getD i 0) (fun i => (z0.getD i ByteArray.empty).toList == key.toList) (.string key.data.toList) k (isKey_string _) (fun i _ => hit_iff _ _)
          go_wp2
          go_loop [13, 14] (fun v i => ∃ j : Nat, j ≤ k ∧ i = .int .i64 j ∧ v = .int .i64 (wantTo (fun i => (z0.getD i ByteArray.empty).toList == key.toList) (fun i => z1.getD i 0) j)) (fun _ i => k - (intOf i).toNat)
          case atStart => exact ⟨0, Nat.zero_le _, rfl, rfl⟩
          case round =>
            obtain ⟨j, hj, rfl, rfl⟩ := hrel
            by_cases hjn : j < k
            · have q0 := (hnx.cell (p := ⟨b0, o0 + j, none⟩) (by exact hb0)).trans (C0.out j hjn)
              have q1 := (hnx.cell (p := ⟨b1, o1 + j, none⟩) (by exact hb1)).trans (c1 j hjn)
              have S : Hid (wantTo (fun i => (z0.getD i ByteArray.empty).toList == key.toList) (fun i => z1.getD i 0) (j + 1) = if ((z0.getD j ByteArray.empty).toList == key.toList) = true then z1.getD j 0 else wantTo (fun i => (z0.getD i ByteArray.empty).toList == key.toList) (fun i => z1.getD i 0) j) := rfl
              clear hown hnx C0 c1 f0 f1 L
              generalize z0.getD j ByteArray.empty = x at q0 S
              generalize z1.getD j 0 = y at q1 S
              generalize wantTo (fun i => (z0.getD i ByteArray.empty).toList == key.toList) (fun i => z1.getD i 0) j = v0 at S
              by_cases hx : (x.toList == key.toList) = true
              · go_wp2
                go_round
                case rel => exact ⟨j + 1, by omega, by go_num, by rw [S.out, if_pos hx]⟩
                case measure => simp [intOf]; omega
              · have hx' : (x.toList == key.toList) = false := by simpa using hx
                go_wp2
                go_round
                case rel => exact ⟨j + 1, by omega, by go_num, by rw [S.out, if_neg hx]⟩
                case measure => simp [intOf]; omega
            · obtain rfl : j = k := by omega
              generalize hD : putTo (fun i => Lit.string (z0.getD i ByteArray.empty).data.toList) (fun i => z1.getD i 0) j = D at hown L
              generalize hV : wantTo (fun i => (z0.getD i ByteArray.empty).toList == key.toList) (fun i => z1.getD i 0) j = V at L ⊢
              clear hD hV C0 c1 f0 f1
              rcases L with ⟨L1, L2⟩ | ⟨L1, L2⟩
              · have hix := index_yes wr w.heap.size j D key V hown w2 L1 L2
                clear L1 L2 hown
                go_wp2_with (go_at_call 5; refine hix.mono ?_; rintro e w' ⟨rfl, rfl⟩)
                go_ret
                exact ⟨rfl, hnx⟩
              · have hix := index_no wr w.heap.size j D key hown w2 L1
                subst L2
                clear L1 hown
                go_wp2_with (go_at_call 5; refine hix.mono ?_; rintro e w' ⟨rfl, rfl⟩)
                go_ret
                exact ⟨rfl, hnx⟩
    · go_enter Yba.func3, Yba.ntmps3
      go_wp2
      clear hs1 hlt3 hi1 hi2 hi3
      go_loopw [12] (fun i wr => ∃ k : Nat, k ≤ n ∧ i = .int .i64 k ∧ wr.ownsMap Yba.prog 9 (plainElem Yba.prog 3) w.heap.size k (putTo (fun i => .string (z0.getD i ByteArray.empty).data.toList) (fun i => z1.getD i 0) k) ∧ Below w.heap.size w wr)
        (fun i _ => n - (intOf i).toNat)
      case atStart => exact ⟨0, Nat.zero_le _, rfl, World.ownsMap_made _ _ _ _, (Below.refl _ _).alloc (Nat.le_refl _) _⟩
      case round =>
        obtain ⟨k, hk, rfl, hown, hnx⟩ := hrel
        by_cases hkn : k < n
        · have q0 := (hnx.cell (p := ⟨b0, o0 + k, none⟩) (by exact hb0)).trans (C0.out k hkn)
          have q1 := (hnx.cell (p := ⟨b1, o1 + k, none⟩) (by exact hb1)).trans (c1 k hkn)
          obtain ⟨w1, hrun, hown1, hgrow1⟩ := hown.drew.update law24 Yba.underlying24 (by unfold maxLen; omega) (Go.WideMaps.keyOf_string_mk Yba.underlying9 (f0 k hkn)) (plainElem_int Yba.underlying3 (f1 k hkn))
          have R1 : w1.ownsMap Yba.prog 9 (plainElem Yba.prog 3) w.heap.size (k + 1) (putTo (fun i => .string (z0.getD i ByteArray.empty).data.toList) (fun i => z1.getD i 0) (k + 1)) := hown1
          have R2 : Below w.heap.size w w1 := hnx.drew.grown hgrow1 hnx.size (fun j hj => by cases hj; exact Nat.le_refl _)
          clear hown1 hgrow1 hown hnx C0 c1 f0 f1
          generalize z0.getD k ByteArray.empty = x at q0 hrun
          generalize z1.getD k 0 = y at q1 hrun
          go_wp2
          go_region
          go_wp2
          go_roundw
          case rel => exact ⟨k + 1, by omega, by go_num, R1, R2⟩
          case measure => simp [intOf]; omega
        · obtain rfl : k = n := by omega
          have L := law (fun i => .string (z0.getD i ByteArray.empty).data.toList) (fun i => z1.getD i 0) (fun i => (z0.getD i ByteArray.empty).toList == key.toList) (.string key.data.toList) k (isKey_string _) (fun i _ => hit_iff _ _)
          go_wp2
          go_loop [13, 14] (fun v i => ∃ j : Nat, j ≤ k ∧ i = .int .i64 j ∧ v = .int .i64 (wantTo (fun i => (z0.getD i ByteArray.empty).toList == key.toList) (fun i => z1.getD i 0) j)) (fun _ i => k - (intOf i).toNat)
          case atStart => exact ⟨0, Nat.zero_le _, rfl, rfl⟩
          case round =>
            obtain ⟨j, hj, rfl, rfl⟩ := hrel
            by_cases hjn : j < k
            · have q0 := (hnx.cell (p := ⟨b0, o0 + j, none⟩) (by exact hb0)).trans (C0.out j hjn)
              have q1 := (hnx.cell (p := ⟨b1, o1 + j, none⟩) (by exact hb1)).trans (c1 j hjn)
              have S : Hid (wantTo (fun i => (z0.getD i ByteArray.empty).toList == key.toList) (fun i => z1.getD i 0) (j + 1) = if ((z0.getD j ByteArray.empty).toList == key.toList) = true then z1.getD j 0 else wantTo (fun i => (z0.getD i ByteArray.empty).toList == key.toList) (fun i => z1.getD i 0) j) := rfl
              clear hown hnx C0 c1 f0 f1 L
              generalize z0.getD j ByteArray.empty = x at q0 S
              generalize z1.getD j 0 = y at q1 S
              generalize wantTo (fun i => (z0.getD i ByteArray.empty).toList == key.toList) (fun i => z1.getD i 0) j = v0 at S
              by_cases hx : (x.toList == key.toList) = true
              · go_wp2
                go_round
                case rel => exact ⟨j + 1, by omega, by go_num, by rw [S.out, if_pos hx]⟩
                case measure => simp [intOf]; omega
              · have hx' : (x.toList == key.toList) = false := by simpa using hx
                go_wp2
                go_round
                case rel => exact ⟨j + 1, by omega, by go_num, by rw [S.out, if_neg hx]⟩
                case measure => simp [intOf]; omega
            · obtain rfl : j = k := by omega
              generalize hD : putTo (fun i => Lit.string (z0.getD i ByteArray.empty).data.toList) (fun i => z1.getD i 0) j = D at hown L
              generalize hV : wantTo (fun i => (z0.getD i ByteArray.empty).toList == key.toList) (fun i => z1.getD i 0) j = V at L ⊢
              clear hD hV C0 c1 f0 f1
              rcases L with ⟨L1, L2⟩ | ⟨L1, L2⟩
              · have hix := index_yes wr w.heap.size j D key V hown w2 L1 L2
                clear L1 L2 hown
                go_wp2_with (go_at_call 5; refine hix.mono ?_; rintro e w' ⟨rfl, rfl⟩)
                go_ret
                exact ⟨rfl, hnx⟩
              · have hix := index_no wr w.heap.size j D key hown w2 L1
                subst L2
                clear L1 hown
                go_wp2_with (go_at_call 5; refine hix.mono ?_; rintro e w' ⟨rfl, rfl⟩)
                go_ret
                exact ⟨rfl, hnx⟩
  · have hq : ((sel : Int) % 2 == 0) = true := by simp; omega
    rcases hcase with ⟨hlt, e⟩ | ⟨hlt, e⟩ <;> subst e
    · go_enter Yba.func3, Yba.ntmps3
      go_wp2
      clear hs1 hlt3 hi1 hi2 hi3
      go_loopw [12] (fun i wr => ∃ k : Nat, k ≤ n ∧ i = .int .i64 k ∧ wr.ownsMap Yba.prog 9 (plainElem Yba.prog 3) w.heap.size k (putTo (fun i => .string (z0.getD i ByteArray.empty).data.toList) (fun i => z1.getD i 0) k) ∧ Below w.heap.size w wr)
        (fun i _ => n - (intOf i).toNat)
      case atStart => exact ⟨0, Nat.zero_le _, rfl, World.ownsMap_made _ _ _ _, (Below.refl _ _).alloc (Nat.le_refl _) _⟩
      case round =>
        obtain ⟨k, hk, rfl, hown, hnx⟩ := hrel
        by_cases hkn : k < n
        · have q0 := (hnx.cell (p := ⟨b0, o0 + k, none⟩) (by exact hb0)).trans (C0.out k hkn)
          have q1 := (hnx.cell (p := ⟨b1, o1 + k, none⟩) (by exact hb1)).trans (c1 k hkn)
          obtain ⟨w1, hrun, hown1, hgrow1⟩ := hown.drew.update law24 Yba.underlying24 (by unfold maxLen; omega) (Go.WideMaps.keyOf_string_mk Yba.underlying9 (f0 k hkn)) (plainElem_int Yba.underlying3 (f1 k hkn))
          have R1 : w1.ownsMap Yba.prog 9 (plainElem Yba.prog 3) w.heap.size (k + 1) (putTo (fun i => .string (z0.getD i ByteArray.empty).data.toList) (fun i => z1.getD i 0) (k + 1)) := hown1
          have R2 : Below w.heap.size w w1 := hnx.drew.grown hgrow1 hnx.size (fun j hj => by cases hj; exact Nat.le_refl _)
          clear hown1 hgrow1 hown hnx C0 c1 f0 f1
          generalize z0.getD k ByteArray.empty = x at q0 hrun
          generalize z1.getD k 0 = y at q1 hrun
          go_wp2
          go_region
          go_wp2
          go_roundw
          case rel => exact ⟨k + 1, by omega, by go_num, R1, R2⟩
          case measure => simp [intOf]; omega
        · obtain rfl : k = n := by omega
          have L := law (fun i => .string (z0.getD i ByteArray.empty).data.toList) (fun i => z1.getD i 0) (fun i => (z0.getD i ByteArray.empty).toList == key.toList) (.string key.data.toList) k (isKey_string _) (fun i _ => hit_iff _ _)
          go_wp2
          go_loop [13, 14] (fun v i => ∃ j : Nat, j ≤ k ∧ i = .int .i64 j ∧ v = .int .i64 (wantTo (fun i => (z0.getD i ByteArray.empty).toList == key.toList) (fun i => z1.getD i 0) j)) (fun _ i => k - (intOf i).toNat)
          case atStart => exact ⟨0, Nat.zero_le _, rfl, rfl⟩
          case round =>
            obtain ⟨j, hj, rfl, rfl⟩ := hrel
            by_cases hjn : j < k
            · have q0 := (hnx.cell (p := ⟨b0, o0 + j, none⟩) (by exact hb0)).trans (C0.out j hjn)
              have q1 := (hnx.cell (p := ⟨b1, o1 + j, none⟩) (by exact hb1)).trans (c1 j hjn)
              have S : Hid (wantTo (fun i => (z0.getD i ByteArray.empty).toList == key.toList) (fun i => z1.getD i 0) (j + 1) = if ((z0.getD j ByteArray.empty).toList == key.toList) = true then z1.getD j 0 else wantTo (fun i => (z0.getD i ByteArray.empty).toList == key.toList) (fun i => z1.getD i 0) j) := rfl
              clear hown hnx C0 c1 f0 f1 L
              generalize z0.getD j ByteArray.empty = x at q0 S
              generalize z1.getD j 0 = y at q1 S
              generalize wantTo (fun i => (z0.getD i ByteArray.empty).toList == key.toList) (fun i => z1.getD i 0) j = v0 at S
              by_cases hx : (x.toList == key.toList) = true
              · go_wp2
                go_round
                case rel => exact ⟨j + 1, by omega, by go_num, by rw [S.out, if_pos hx]⟩
                case measure => simp [intOf]; omega
              · have hx' : (x.toList == key.toList) = false := by simpa using hx
                go_wp2
                go_round
                case rel => exact ⟨j + 1, by omega, by go_num, by rw [S.out, if_neg hx]⟩
                case measure => simp [intOf]; omega
            · obtain rfl : j = k := by omega
              generalize hD : putTo (fun i => Lit.string (z0.getD i ByteArray.empty).data.toList) (fun i => z1.getD i 0) j = D at hown L
              generalize hV : wantTo (fun i => (z0.getD i ByteArray.empty).toList == key.toList) (fun i => z1.getD i 0) j = V at L ⊢
              clear hD hV C0 c1 f0 f1
              rcases L with ⟨L1, L2⟩ | ⟨L1, L2⟩
              · have hix := index_yes wr w.heap.size j D key V hown w2 L1 L2
                clear L1 L2 hown
                go_wp2_with (go_at_call 5; refine hix.mono ?_; rintro e w' ⟨rfl, rfl⟩)
                go_ret
                exact ⟨rfl, hnx⟩
              · have hix := index_no wr w.heap.size j D key hown w2 L1
                subst L2
                clear L1 hown
                go_wp2_with (go_at_call 5; refine hix.mono ?_; rintro e w' ⟨rfl, rfl⟩)
                go_ret
                exact ⟨rfl, hnx⟩
    · go_enter Yba.func3, Yba.ntmps3
      go_wp2
      clear hs1 hlt3 hi1 hi2 hi3
      go_loopw [12] (fun i wr => ∃ k : Nat, k ≤ n ∧ i = .int .i64 k ∧ wr.ownsMap Yba.prog 9 (plainElem Yba.prog 3) w.heap.size k (putTo (fun i => .string (z0.getD i ByteArray.empty).data.toList) (fun i => z1.getD i 0) k) ∧ Below w.heap.size w wr)
        (fun i _ => n - (intOf i).toNat)
      case atStart => exact ⟨0, Nat.zero_le _, rfl, World.ownsMap_made _ _ _ _, (Below.refl _ _).alloc (Nat.le_refl _) _⟩
      case round =>
        obtain ⟨k, hk, rfl, hown, hnx⟩ := hrel
        by_cases hkn : k < n
        · have q0 := (hnx.cell (p := ⟨b0, o0 + k, none⟩) (by exact hb0)).trans (C0.out k hkn)
          have q1 := (hnx.cell (p := ⟨b1, o1 + k, none⟩) (by exact hb1)).trans (c1 k hkn)
          obtain ⟨w1, hrun, hown1, hgrow1⟩ := hown.drew.update law24 Yba.underlying24 (by unfold maxLen; omega) (Go.WideMaps.keyOf_string_mk Yba.underlying9 (f0 k hkn)) (plainElem_int Yba.underlying3 (f1 k hkn))
          have R1 : w1.ownsMap Yba.prog 9 (plainElem Yba.prog 3) w.heap.size (k + 1) (putTo (fun i => .string (z0.getD i ByteArray.empty).data.toList) (fun i => z1.getD i 0) (k + 1)) := hown1
          have R2 : Below w.heap.size w w1 := hnx.drew.grown hgrow1 hnx.size (fun j hj => by cases hj; exact Nat.le_refl _)
          clear hown1 hgrow1 hown hnx C0 c1 f0 f1
          generalize z0.getD k ByteArray.empty = x at q0 hrun
          generalize z1.getD k 0 = y at q1 hrun
          go_wp2
          go_region
          go_wp2
          go_roundw
          case rel => exact ⟨k + 1, by omega, by go_num, R1, R2⟩
          case measure => simp [intOf]; omega
        · obtain rfl : k = n := by omega
          have L := law (fun i => .string (z0.getD i ByteArray.empty).data.toList) (fun i => z1.getD i 0) (fun i => (z0.getD i ByteArray.empty).toList == key.toList) (.string key.data.toList) k (isKey_string _) (fun i _ => hit_iff _ _)
          go_wp2
          go_loop [13, 14] (fun v i => ∃ j : Nat, j ≤ k ∧ i = .int .i64 j ∧ v = .int .i64 (wantTo (fun i => (z0.getD i ByteArray.empty).toList == key.toList) (fun i => z1.getD i 0) j)) (fun _ i => k - (intOf i).toNat)
          case atStart => exact ⟨0, Nat.zero_le _, rfl, rfl⟩
          case round =>
            obtain ⟨j, hj, rfl, rfl⟩ := hrel
            by_cases hjn : j < k
            · have q0 := (hnx.cell (p := ⟨b0, o0 + j, none⟩) (by exact hb0)).trans (C0.out j hjn)
              have q1 := (hnx.cell (p := ⟨b1, o1 + j, none⟩) (by exact hb1)).trans (c1 j hjn)
              have S : Hid (wantTo (fun i => (z0.getD i ByteArray.empty).toList == key.toList) (fun i => z1.getD i 0) (j + 1) = if ((z0.getD j ByteArray.empty).toList == key.toList) = true then z1.getD j 0 else wantTo (fun i => (z0.getD i ByteArray.empty).toList == key.toList) (fun i => z1.getD i 0) j) := rfl
              clear hown hnx C0 c1 f0 f1 L
              generalize z0.getD j ByteArray.empty = x at q0 S
              generalize z1.getD j 0 = y at q1 S
              generalize wantTo (fun i => (z0.getD i ByteArray.empty).toList == key.toList) (fun i => z1.getD i 0) j = v0 at S
              by_cases hx : (x.toList == key.toList) = true
              · go_wp2
                go_round
                case rel => exact ⟨j + 1, by omega, by go_num, by rw [S.out, if_pos hx]⟩
                case measure => simp [intOf]; omega
              · have hx' : (x.toList == key.toList) = false := by simpa using hx
                go_wp2
                go_round
                case rel => exact ⟨j + 1, by omega, by go_num, by rw [S.out, if_neg hx]⟩
                case measure => simp [intOf]; omega
            · obtain rfl : j = k := by omega
              generalize hD : putTo (fun i => Lit.string (z0.getD i ByteArray.empty).data.toList) (fun i => z1.getD i 0) j = D at hown L
              generalize hV : wantTo (fun i => (z0.getD i ByteArray.empty).toList == key.toList) (fun i => z1.getD i 0) j = V at L ⊢
              clear hD hV C0 c1 f0 f1
              rcases L with ⟨L1, L2⟩ | ⟨L1, L2⟩
              · have hix := index_yes wr w.heap.size j D key V hown w2 L1 L2
                clear L1 L2 hown
                go_wp2_with (go_at_call 5; refine hix.mono ?_; rintro e w' ⟨rfl, rfl⟩)
                go_ret
                exact ⟨rfl, hnx⟩
              · have hix := index_no wr w.heap.size j D key hown w2 L1
                subst L2
                clear L1 hown
                go_wp2_with (go_at_call 5; refine hix.mono ?_; rintro e w' ⟨rfl, rfl⟩)
                go_ret
                exact ⟨rfl, hnx⟩

theorem getD_mem {α : Type} (l : List α) (d : α) (i : Nat) (h : i < l.length) : l.getD i d ∈ l := by
  rw [List.getD, List.getElem?_eq_getElem h]; simp
theorem strs_at {w : World} {a : Addr} {zs : List ByteArray} (h : ∀ i, i < zs.length → w.cell? (a.add i) = some (.string (zs.getD i ByteArray.empty))) (hp : 0 < zs.length) :
    ∃ b off, a = ⟨b, off, none⟩ ∧ ∀ j, j < zs.length → w.cell? ⟨b, off + j, none⟩ = some (.string (zs.getD j ByteArray.empty)) := by
  obtain ⟨b, off, spot⟩ := a
  have hspot : spot = none := by simpa [Addr.add] using World.cell?_spot (h 0 hp)
  subst hspot
  exact ⟨b, off, rfl, fun j hj => by rw [← Go.WideShapes.add_plain]; exact h j hj⟩
theorem bnd8 {a : Int} (h : (Lit.int .u8 a).wf = true) : 0 ≤ a ∧ a ≤ 255 := by
  simp [Lit.wf] at h
  have e1 : IntKind.u8.min = 0 := by decide
  have e2 : IntKind.u8.max = 255 := by decide
  omega

set_option maxRecDepth 100000 in
theorem walk (a0 : Option Addr) (len0 cap0 : Nat) (z0 : List ByteArray) (a1 : Option Addr) (len1 cap1 : Nat) (z1 : List Int) (a2 : ByteArray) (a3 : Int) (w : World) (w0 : IsStrs w a0 len0 cap0 z0) (w1 : IsRow .i64 w a1 len1 cap1 z1) (w2 : a2.size ≤ maxLen) (w3 : (Lit.int .u8 a3).wf = true) :
    Calls Yba.prog 3 #[.slice a0 len0 cap0, .slice a1 len1 cap1, .string a2, .int .u8 a3] w fun e w' => e = .returned (.bool true) ∧ Below w.heap.size w w' := by
  by_cases h0 : 1024 < len0
  · go_enter Yba.func3, Yba.ntmps3
    go_wp2
    go_ret
    exact ⟨rfl, Below.refl _ _⟩
  · by_cases h1 : 1024 < len1
    · go_enter Yba.func3, Yba.ntmps3
      go_wp2
      go_ret
      exact ⟨rfl, Below.refl _ _⟩
    · by_cases h2 : len0 = 0 ∨ len1 = 0
      · exact walk0 a0 len0 cap0 a1 len1 cap1 a2 a3 w (by omega) (by omega) h2 w2
      · rcases w0 with ⟨_, h, _⟩ | ⟨x0, rfl, hl0, _, hz0, hc0, hw0⟩
        · omega
        rcases w1 with ⟨_, h, _⟩ | ⟨x1, rfl, hl1, _, hz1, hc1, hw1⟩
        · omega
        obtain ⟨b0, o0, rfl, k0⟩ := strs_at hc0 (by omega)
        obtain ⟨b1, o1, rfl, k1⟩ := ints_at hc1 (by omega)
        have e0 : ∀ i, i < z0.length → (z0.getD i ByteArray.empty).size ≤ maxLen := fun i hi => hw0 _ (getD_mem _ _ _ hi)
        have e1 : ∀ i, i < z1.length → (Lit.int .i64 (z1.getD i 0)).wf = true := fun i hi => hw1 _ (getD_mem _ _ _ hi)
        obtain ⟨s1, s2⟩ := bnd8 w3
        obtain ⟨sel, rfl⟩ := Int.eq_ofNat_of_zero_le s1
        obtain ⟨n, hn⟩ : ∃ n, (len1 < len0 ∧ n = len1) ∨ (¬ len1 < len0 ∧ n = len0) := by
          by_cases hlt : len1 < len0
          · exact ⟨_, .inl ⟨hlt, rfl⟩⟩
          · exact ⟨_, .inr ⟨hlt, rfl⟩⟩
        have hm : sel / 2 % n < n := Nat.mod_lt _ (by omega)
        by_cases hs : sel % 2 = 0
        · exact walk1 b0 o0 len0 cap0 z0 b1 o1 len1 cap1 z1 a2 (z0.getD (sel / 2 % n) ByteArray.empty) sel n w (World.block_lt_of_cell? _ _ (k0 0 (by omega))) (World.block_lt_of_cell? _ _ (k1 0 (by omega))) (by omega) (by omega) (by omega) (by omega)
            (fun i hi => k0 i (by omega)) (fun i hi => k1 i (by omega)) (fun i hi => e0 i (by omega)) (fun i hi => e1 i (by omega)) hn (by omega) (.inr ⟨hs, k0 _ (by omega)⟩) (e0 _ (by omega))
        · exact walk1 b0 o0 len0 cap0 z0 b1 o1 len1 cap1 z1 a2 a2 sel n w (World.block_lt_of_cell? _ _ (k0 0 (by omega))) (World.block_lt_of_cell? _ _ (k1 0 (by omega))) (by omega) (by omega) (by omega) (by omega)
            (fun i hi => k0 i (by omega)) (fun i hi => k1 i (by omega)) (fun i hi => e0 i (by omega)) (fun i hi => e1 i (by omega)) hn (by omega) (.inl ⟨hs, rfl⟩) w2

/-! ### THE ROW's STEP -/
set_option maxRecDepth 100000 in
theorem lifted (os : Os) (started : os.Started) (H : Type) (enc : TypeId × Value → H) :
    ReturnsInHanded {} Yba.checked os 3 .any (Rows.lawS4089BStringSpec.pre6 enc Yba.prog Yba.f3 Rows.lawS4089BStringRow.domain false) (Rows.lawS4089BStringSpec.post enc Yba.prog Yba.f3 false true false false) := by
  refine returnsInHanded_of_change (C := Yba.checked) own started (by kernel_rfl) Yba.func3
    (ChangeSpec.witness6 (enc := enc) (C := Yba.checked) false ⟨#[], #[.slice none 0 0, .slice none 0 0, .string ByteArray.empty, .int .u8 0], []⟩ 8 (by kernel_rfl) (by kernel_rfl) (by kernel_rfl) (by kernel_rfl)) ?_
  intro W base args ds gs before hval0 hW hcnd _
  have hval : ∀ (j : Nat) t v, Yba.f3.params[j]? = some t → args[j]? = some v → Value.okWide Yba.prog W .any base t v := hval0
  have hW' := hW
  obtain ⟨p, q, hA0, hV, rfl, hfz, hnd⟩ := hW
  have hA : DataW.TrodAll enc Yba.prog W 0 (fun _ => true) true Yba.f3.params.toList args.toList ds p := hA0
  rw [Yba.params3] at hA hval
  obtain ⟨v0, vs0, d0, ds0, p0, q0, hargs, rfl, rfl, h0, r0⟩ := trodAll_cons hA
  obtain ⟨v1, vs1, d1, ds1, p1, q1, rfl, rfl, rfl, h1, r1⟩ := trodAll_cons r0
  obtain ⟨v2, vs2, d2, ds2, p2, q2, rfl, rfl, rfl, h2, r2⟩ := trodAll_cons r1
  obtain ⟨v3, vs3, d3, ds3, p3, q3, rfl, rfl, rfl, h3, r3⟩ := trodAll_cons r2
  obtain ⟨rfl, rfl, rfl⟩ := trodAll_nil r3
  obtain rfl : args = #[v0, v1, v2, v3] := by cases args; simp_all
  obtain ⟨rfl, rfl⟩ := trodVars_none hV
  obtain ⟨a0, len0, cap0, rfl⟩ := okWide_slice Yba.underlying22 (hval 0 22 v0 rfl rfl)
  have k0 := h0
  have lt0 : ∀ x ∈ p0, x.block < W.heap.size := by obtain ⟨m, hm⟩ := k0; exact DataW.trod_lt m _ _ _ hm
  obtain ⟨z0, w0⟩ : ∃ zs, IsStrs W a0 len0 cap0 zs := by
    obtain ⟨fuel, hf⟩ := h0
    rcases open_strings Yba.underlying22 Yba.underlying9 (by kernel_rfl) hf with ⟨hcs, _⟩ | ⟨x, l, c, zs, hcs, _, hl, hm, hz, _, hcell, hwz⟩
    · simp [Value.cells] at hcs
      obtain ⟨rfl, rfl, rfl⟩ := hcs
      exact ⟨[], .inl ⟨rfl, rfl, rfl, rfl⟩⟩
    · simp [Value.cells] at hcs
      obtain ⟨rfl, rfl, rfl⟩ := hcs
      exact ⟨zs, .inr ⟨_, rfl, hl, hm, by simpa using hz, hcell, hwz⟩⟩
  obtain ⟨a1, len1, cap1, rfl⟩ := okWide_slice Yba.underlying23 (hval 1 23 v1 rfl rfl)
  have k1 := h1
  have lt1 : ∀ x ∈ p1, x.block < W.heap.size := by obtain ⟨m, hm⟩ := k1; exact DataW.trod_lt m _ _ _ hm
  obtain ⟨z1, w1⟩ : ∃ zs, IsRow .i64 W a1 len1 cap1 zs := by
    obtain ⟨fuel, hf⟩ := h1
    rcases open_ints Yba.underlying23 Yba.underlying3 (by kernel_rfl) hf with ⟨hcs, _⟩ | ⟨x, l, c, zs, hcs, _, hl, hm, hz, _, hcell, hwz⟩
    · simp [Value.cells] at hcs
      obtain ⟨rfl, rfl, rfl⟩ := hcs
      exact ⟨[], .inl ⟨rfl, rfl, rfl, rfl⟩⟩
    · simp [Value.cells] at hcs
      obtain ⟨rfl, rfl, rfl⟩ := hcs
      exact ⟨zs, .inr ⟨_, rfl, hl, hm, by simpa using hz, hcell, hwz⟩⟩
  obtain ⟨a2, rfl, rfl, rfl, w2⟩ := open_string Yba.underlying9 (hval 2 9 v2 rfl rfl) h2
  obtain ⟨a3, rfl, rfl, rfl, w3⟩ := open_int Yba.underlying5 (hval 3 5 v3 rfl rfl) h3
  clear hA0 hval0
  refine (walk a0 len0 cap0 z0 a1 len1 cap1 z1 a2 a3 W w0 w1 w2 w3).mono fun e W' ⟨he, bel⟩ => ?_
  subst he
  exact ⟨_, rfl, _, _, _, [], _, [], hW', trodAll_mk1 (shut_bool Yba.underlying4 _), (trodAll_cons_mk (Below.trod laidOut (by kernel_rfl) (of_decide_eq_true (by kernel_rfl)) k0 bel lt0) (trodAll_cons_mk (Below.trod laidOut (by kernel_rfl) (of_decide_eq_true (by kernel_rfl)) k1 bel lt1) (trodAll_cons_mk (shut_string Yba.underlying9 w2) (trodAll_cons_mk (shut_int Yba.underlying5 w3) trodAll_mk0)))), rfl, bel.frame _, fun h => by cases h⟩

theorem over : Rows.lawS4089BStringRow.holds Yba.pinned (OpenSpec.ofChange Rows.lawS4089BStringSpec) :=
  OpenClaim.holds_of_wide 3 Yba.f3 rfl rfl rfl rfl rfl rfl rfl ⟨rfl, rfl, rfl, rfl, rfl⟩ rfl rfl rfl rfl rfl (by kernel_rfl) Yba.func3 (by kernel_rfl)
    (of_decide_eq_true (by kernel_rfl)) (by unfold Func.isWrapper; first | (rw [if_pos (by decide +kernel)]; kernel_rfl) | (rw [if_neg (by decide +kernel)]; exact ⟨rfl, rfl⟩))
    (fun os started H enc _ => lifted os started H enc)

/-- THE STATEMENT -/
theorem proved : Rows.LawS4089BStringSaid := over
end Go.Proofs.Ybulkcfqu.lawS4089BString
