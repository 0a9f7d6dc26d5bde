/- Seat b4091aF: the walks of zzs4091cpop and zzs4091cset. -/
import Derived.Test.YbulkcfrwFmtProg
import Derived.Test.YbulkcfrwFmtPlain
import Derived.WalkKit
import Derived.WalkSpells
import Derived.WalkLawsBesides
import Derived.RegionTactic
import Derived.Deep.QuietTactic
import Derived.BigQuiet
import Derived.WalkSmall
import Derived.Laws.BitsAllLaws
namespace Go.Proofs.YbulkcfrwFmt.Walks
open Go.RowKit Plain

/-- x & 1 -/
theorem and1 (x : Nat) (h : x < 256) : Go.bits .and .u8 (x : Int) 1 = ((x % 2 : Nat) : Int) := by
  have := u8_and_nat x 1 h (by omega)
  rw [show ((1 : Nat) : Int) = 1 from rfl] at this
  rw [this, Nat.and_one_is_mod]

set_option maxHeartbeats 1000000 in
/-- zzs4091cpop -/
theorem pop_any (m : Nat) (hm : m < 256) (w : World) :
    Calls Ybaf.prog 23 #[.int .u8 m] w fun e w' => e = .returned (.int .i64 (pop m)) ∧ w = w' := by
  go_enter Ybaf.func23, Ybaf.ntmps23
  go_wp2
  go_loop [0, 3] (fun v n => ∃ x c : Nat, x < 256 ∧ c ≤ 8 ∧ v = .int .u8 x ∧ n = .int .i64 c ∧ Hid (c + pop x = pop m)) (fun v _ => (intOf v).toNat)
  case atStart => exact ⟨m, 0, hm, by omega, rfl, rfl, Nat.zero_add _⟩
  case round =>
    obtain ⟨x, c, hx, hc, rfl, rfl, hp⟩ := hrel
    by_cases h0 : x = 0
    · subst h0
      have hq : ((0 : Int) != 0) = false := by decide
      go_wp2
      go_ret
      refine ⟨?_, rfl⟩
      have := hp.out
      rw [pop_zero] at this
      rw [← this]; rfl
    · have hq : ((x : Int) != 0) = true := by rw [bne_iff_ne]; omega
      have ha := and1 x hx
      have hpx := pop_half hx
      have HP : Hid (pop x = x % 2 + pop (x / 2)) := hpx
      clear hpx
      have hmod : x % 2 < 2 := Nat.mod_lt _ (by omega)
      generalize hy : x % 2 = y at ha HP hmod
      clear hy
      go_wp2
      refine ⟨⟨x / 2, c + y, by omega, ?_, by go_num, by go_num, ?_⟩, by simp [intOf]; omega⟩
      · have := hp.out; have := HP.out; have := pop_le m; omega
      · have := hp.out; have := HP.out; show c + y + pop (x / 2) = pop m; omega

theorem range_snoc_yes {m k : Nat} (h : m.testBit k = true) : ((List.range (k + 1)).filter fun i => m.testBit i) = ((List.range k).filter fun i => m.testBit i) ++ [k] := by
  rw [List.range_succ, List.filter_append]; simp [h]
theorem range_snoc_no {m k : Nat} (h : m.testBit k = false) : ((List.range (k + 1)).filter fun i => m.testBit i) = ((List.range k).filter fun i => m.testBit i) := by
  rw [List.range_succ, List.filter_append]; simp [h]
theorem info9 : (Ybaf.prog.info? 9).map (fun i => (i.zero, i.size, i.bytes)) = some (some (.string ByteArray.empty), 1, 16) := by kernel_rfl

set_option maxHeartbeats 4000000 in
set_option maxRecDepth 100000 in
/-- zzs4091cset -/
theorem cset_any (m : Nat) (hm : m < 256) (w : World) :
    Calls Ybaf.prog 8 #[.int .u8 m] w fun e w' => ∃ v, e = .returned v ∧ MS w' v m ∧ Below w.heap.size w w' := by
  obtain ⟨i9, hi9, hz9, hs9, hb9⟩ := info_parts info9
  go_enter Ybaf.func8, Ybaf.ntmps8
  go_wp2
  go_loopw [3, 4] (fun v i wr => ∃ (k n : Nat) (xs : List Nat), k ≤ 8 ∧ i = .int .i64 k ∧ n ≤ k ∧ wr.ownsRow w.heap.size 9 1 v n (xs.map cell) ∧ Hid (xs = (List.range k).filter fun i => m.testBit i) ∧ Below w.heap.size w wr) (fun _ i _ => 8 - (intOf i).toNat)
  case atStart => exact ⟨0, 0, [], Nat.zero_le _, rfl, Nat.le_refl _, World.ownsRow_nil _ _ _ _, rfl, Below.refl _ _⟩
  case round =>
    obtain ⟨k, n, xs, hk, rfl, hn, hown, hxs, hbr⟩ := hrel
    by_cases hlt : k < 8
    · have hcase : k = 0 ∨ k = 1 ∨ k = 2 ∨ k = 3 ∨ k = 4 ∨ k = 5 ∨ k = 6 ∨ k = 7 := by omega
      have hth := test_half hm k hlt
      have hd : m / 2 ^ k < 256 := Nat.lt_of_le_of_lt (Nat.div_le_self _ _) hm
      have ha := and1 (m / 2 ^ k) hd
      rcases hcase with rfl | rfl | rfl | rfl | rfl | rfl | rfl | rfl
      · by_cases hb : m.testBit 0 = true
        · have hq : (Go.bits .and .u8 (m : Int) 1 == 1) = true := by
            have e : m / 2 ^ 0 % 2 = 1 := by rw [hth] at hb; simpa using hb
            rw [e] at ha
            have e2 : ((m : Nat) : Int) = (m : Int) := by rfl
            have e3 : m / 2 ^ 0 = m := by simp
            rw [e3, e2] at ha
            rw [ha]; rfl
          have HB : Hid (m.testBit 0 = true) := hb
          clear hb hth ha hd
          go_wp2_with (first
            | (at_builtin; refine wpList_append_own _ rfl (.tmp 15) (.tmp 20) 22 rfl w.heap.size 9 i9 (.string ByteArray.empty) 1 16 Ybaf.underlying22 hi9 hz9 hs9 hb9 rfl (by decide) _ _ _ rfl (hown.alloc _) ⟨wr.heap.size, 0, none⟩ 1 1 [cell 0] rfl rfl (cell_one_new _ _ _) (by intro u hu; simp at hu; subst hu; rfl) (by unfold maxLen; omega) (by omega) (by have := hbr.size; simp; omega) ?_; intro v' w1 hown' hgrow _)
            | go_in)
          have R2 := appended hown hbr hbr.size hgrow
          have R1 : w1.ownsRow w.heap.size 9 1 v' (n + 1) ((xs ++ [0]).map cell) := by simpa using hown'
          clear hown' hgrow hown hbr
          go_roundw
          case rel => exact ⟨1, n + 1, xs ++ [0], by omega, by rfl, by omega, R1, by rw [hxs.out]; exact (range_snoc_yes HB.out).symm, R2⟩
          case measure => simp [intOf]
        · have hb' : m.testBit 0 = false := by simpa using hb
          have hq : (Go.bits .and .u8 (m : Int) 1 == 1) = false := by
            have e : m / 2 ^ 0 % 2 = 0 := by rw [hth] at hb'; simp at hb'; omega
            rw [e] at ha
            have e2 : ((m : Nat) : Int) = (m : Int) := by rfl
            have e3 : m / 2 ^ 0 = m := by simp
            rw [e3, e2] at ha
            rw [ha]; rfl
          have HB : Hid (m.testBit 0 = false) := hb'
          clear hb hb' hth ha hd
          go_wp2
          go_roundw
          case rel => exact ⟨1, n, xs, by omega, by rfl, by omega, hown, by rw [hxs.out]; exact (range_snoc_no HB.out).symm, hbr⟩
          case measure => simp [intOf]
      · by_cases hb : m.testBit 1 = true
        · have hq : (Go.bits .and .u8 ((m : Int) / 2) 1 == 1) = true := by
            have e : m / 2 ^ 1 % 2 = 1 := by rw [hth] at hb; simpa using hb
            rw [e] at ha
            have e2 : ((m / 2 : Nat) : Int) = ((m : Int) / 2) := by exact Int.natCast_ediv m 2
            have e3 : m / 2 ^ 1 = m / 2 := by rfl
            rw [e3, e2] at ha
            rw [ha]; rfl
          have HB : Hid (m.testBit 1 = true) := hb
          clear hb hth ha hd
          go_wp2_with (first
            | (at_builtin; refine wpList_append_own _ rfl (.tmp 15) (.tmp 20) 22 rfl w.heap.size 9 i9 (.string ByteArray.empty) 1 16 Ybaf.underlying22 hi9 hz9 hs9 hb9 rfl (by decide) _ _ _ rfl (hown.alloc _) ⟨wr.heap.size, 0, none⟩ 1 1 [cell 1] rfl rfl (cell_one_new _ _ _) (by intro u hu; simp at hu; subst hu; rfl) (by unfold maxLen; omega) (by omega) (by have := hbr.size; simp; omega) ?_; intro v' w1 hown' hgrow _)
            | go_in)
          have R2 := appended hown hbr hbr.size hgrow
          have R1 : w1.ownsRow w.heap.size 9 1 v' (n + 1) ((xs ++ [1]).map cell) := by simpa using hown'
          clear hown' hgrow hown hbr
          go_roundw
          case rel => exact ⟨2, n + 1, xs ++ [1], by omega, by rfl, by omega, R1, by rw [hxs.out]; exact (range_snoc_yes HB.out).symm, R2⟩
          case measure => simp [intOf]
        · have hb' : m.testBit 1 = false := by simpa using hb
          have hq : (Go.bits .and .u8 ((m : Int) / 2) 1 == 1) = false := by
            have e : m / 2 ^ 1 % 2 = 0 := by rw [hth] at hb'; simp at hb'; omega
            rw [e] at ha
            have e2 : ((m / 2 : Nat) : Int) = ((m : Int) / 2) := by exact Int.natCast_ediv m 2
            have e3 : m / 2 ^ 1 = m / 2 := by rfl
            rw [e3, e2] at ha
            rw [ha]; rfl
          have HB : Hid (m.testBit 1 = false) := hb'
          clear hb hb' hth ha hd
          go_wp2
          go_roundw
          case rel => exact ⟨2, n, xs, by omega, by rfl, by omega, hown, by rw [hxs.out]; exact (range_snoc_no HB.out).symm, hbr⟩
          case measure => simp [intOf]
      · by_cases hb : m.testBit 2 = true
        · have hq : (Go.bits .and .u8 ((m : Int) / 4) 1 == 1) = true := by
            have e : m / 2 ^ 2 % 2 = 1 := by rw [hth] at hb; simpa using hb
            rw [e] at ha
            have e2 : ((m / 4 : Nat) : Int) = ((m : Int) / 4) := by exact Int.natCast_ediv m 4
            have e3 : m / 2 ^ 2 = m / 4 := by rfl
            rw [e3, e2] at ha
            rw [ha]; rfl
          have HB : Hid (m.testBit 2 = true) := hb
          clear hb hth ha hd
          go_wp2_with (first
            | (at_builtin; refine wpList_append_own _ rfl (.tmp 15) (.tmp 20) 22 rfl w.heap.size 9 i9 (.string ByteArray.empty) 1 16 Ybaf.underlying22 hi9 hz9 hs9 hb9 rfl (by decide) _ _ _ rfl (hown.alloc _) ⟨wr.heap.size, 0, none⟩ 1 1 [cell 2] rfl rfl (cell_one_new _ _ _) (by intro u hu; simp at hu; subst hu; rfl) (by unfold maxLen; omega) (by omega) (by have := hbr.size; simp; omega) ?_; intro v' w1 hown' hgrow _)
            | go_in)
          have R2 := appended hown hbr hbr.size hgrow
          have R1 : w1.ownsRow w.heap.size 9 1 v' (n + 1) ((xs ++ [2]).map cell) := by simpa using hown'
          clear hown' hgrow hown hbr
          go_roundw
          case rel => exact ⟨3, n + 1, xs ++ [2], by omega, by rfl, by omega, R1, by rw [hxs.out]; exact (range_snoc_yes HB.out).symm, R2⟩
          case measure => simp [intOf]
        · have hb' : m.testBit 2 = false := by simpa using hb
          have hq : (Go.bits .and .u8 ((m : Int) / 4) 1 == 1) = false := by
            have e : m / 2 ^ 2 % 2 = 0 := by rw [hth] at hb'; simp at hb'; omega
            rw [e] at ha
            have e2 : ((m / 4 : Nat) : Int) = ((m : Int) / 4) := by exact Int.natCast_ediv m 4
            have e3 : m / 2 ^ 2 = m / 4 := by rfl
            rw [e3, e2] at ha
            rw [ha]; rfl
          have HB : Hid (m.testBit 2 = false) := hb'
          clear hb hb' hth ha hd
          go_wp2
          go_roundw
          case rel => exact ⟨3, n, xs, by omega, by rfl, by omega, hown, by rw [hxs.out]; exact (range_snoc_no HB.out).symm, hbr⟩
          case measure => simp [intOf]
      · by_cases hb : m.testBit 3 = true
        · have hq : (Go.bits .and .u8 ((m : Int) / 8) 1 == 1) = true := by
            have e : m / 2 ^ 3 % 2 = 1 := by rw [hth] at hb; simpa using hb
            rw [e] at ha
            have e2 : ((m / 8 : Nat) : Int) = ((m : Int) / 8) := by exact Int.natCast_ediv m 8
            have e3 : m / 2 ^ 3 = m / 8 := by rfl
            rw [e3, e2] at ha
            rw [ha]; rfl
          have HB : Hid (m.testBit 3 = true) := hb
          clear hb hth ha hd
          go_wp2_with (first
            | (at_builtin; refine wpList_append_own _ rfl (.tmp 15) (.tmp 20) 22 rfl w.heap.size 9 i9 (.string ByteArray.empty) 1 16 Ybaf.underlying22 hi9 hz9 hs9 hb9 rfl (by decide) _ _ _ rfl (hown.alloc _) ⟨wr.heap.size, 0, none⟩ 1 1 [cell 3] rfl rfl (cell_one_new _ _ _) (by intro u hu; simp at hu; subst hu; rfl) (by unfold maxLen; omega) (by omega) (by have := hbr.size; simp; omega) ?_; intro v' w1 hown' hgrow _)
            | go_in)
          have R2 := appended hown hbr hbr.size hgrow
          have R1 : w1.ownsRow w.heap.size 9 1 v' (n + 1) ((xs ++ [3]).map cell) := by simpa using hown'
          clear hown' hgrow hown hbr
          go_roundw
          case rel => exact ⟨4, n + 1, xs ++ [3], by omega, by rfl, by omega, R1, by rw [hxs.out]; exact (range_snoc_yes HB.out).symm, R2⟩
          case measure => simp [intOf]
        · have hb' : m.testBit 3 = false := by simpa using hb
          have hq : (Go.bits .and .u8 ((m : Int) / 8) 1 == 1) = false := by
            have e : m / 2 ^ 3 % 2 = 0 := by rw [hth] at hb'; simp at hb'; omega
            rw [e] at ha
            have e2 : ((m / 8 : Nat) : Int) = ((m : Int) / 8) := by exact Int.natCast_ediv m 8
            have e3 : m / 2 ^ 3 = m / 8 := by rfl
            rw [e3, e2] at ha
            rw [ha]; rfl
          have HB : Hid (m.testBit 3 = false) := hb'
          clear hb hb' hth ha hd
          go_wp2
          go_roundw
          case rel => exact ⟨4, n, xs, by omega, by rfl, by omega, hown, by rw [hxs.out]; exact (range_snoc_no HB.out).symm, hbr⟩
          case measure => simp [intOf]
      · by_cases hb : m.testBit 4 = true
        · have hq : (Go.bits .and .u8 ((m : Int) / 16) 1 == 1) = true := by
            have e : m / 2 ^ 4 % 2 = 1 := by rw [hth] at hb; simpa using hb
            rw [e] at ha
            have e2 : ((m / 16 : Nat) : Int) = ((m : Int) / 16) := by exact Int.natCast_ediv m 16
            have e3 : m / 2 ^ 4 = m / 16 := by rfl
            rw [e3, e2] at ha
            rw [ha]; rfl
          have HB : Hid (m.testBit 4 = true) := hb
          clear hb hth ha hd
          go_wp2_with (first
            | (at_builtin; refine wpList_append_own _ rfl (.tmp 15) (.tmp 20) 22 rfl w.heap.size 9 i9 (.string ByteArray.empty) 1 16 Ybaf.underlying22 hi9 hz9 hs9 hb9 rfl (by decide) _ _ _ rfl (hown.alloc _) ⟨wr.heap.size, 0, none⟩ 1 1 [cell 4] rfl rfl (cell_one_new _ _ _) (by intro u hu; simp at hu; subst hu; rfl) (by unfold maxLen; omega) (by omega) (by have := hbr.size; simp; omega) ?_; intro v' w1 hown' hgrow _)
            | go_in)
          have R2 := appended hown hbr hbr.size hgrow
          have R1 : w1.ownsRow w.heap.size 9 1 v' (n + 1) ((xs ++ [4]).map cell) := by simpa using hown'
          clear hown' hgrow hown hbr
          go_roundw
          case rel => exact ⟨5, n + 1, xs ++ [4], by omega, by rfl, by omega, R1, by rw [hxs.out]; exact (range_snoc_yes HB.out).symm, R2⟩
          case measure => simp [intOf]
        · have hb' : m.testBit 4 = false := by simpa using hb
          have hq : (Go.bits .and .u8 ((m : Int) / 16) 1 == 1) = false := by
            have e : m / 2 ^ 4 % 2 = 0 := by rw [hth] at hb'; simp at hb'; omega
            rw [e] at ha
            have e2 : ((m / 16 : Nat) : Int) = ((m : Int) / 16) := by exact Int.natCast_ediv m 16
            have e3 : m / 2 ^ 4 = m / 16 := by rfl
            rw [e3, e2] at ha
            rw [ha]; rfl
          have HB : Hid (m.testBit 4 = false) := hb'
          clear hb hb' hth ha hd
          go_wp2
          go_roundw
          case rel => exact ⟨5, n, xs, by omega, by rfl, by omega, hown, by rw [hxs.out]; exact (range_snoc_no HB.out).symm, hbr⟩
          case measure => simp [intOf]
      · by_cases hb : m.testBit 5 = true
        · have hq : (Go.bits .and .u8 ((m : Int) / 32) 1 == 1) = true := by
            have e : m / 2 ^ 5 % 2 = 1 := by rw [hth] at hb; simpa using hb
            rw [e] at ha
            have e2 : ((m / 32 : Nat) : Int) = ((m : Int) / 32) := by exact Int.natCast_ediv m 32
            have e3 : m / 2 ^ 5 = m / 32 := by rfl
            rw [e3, e2] at ha
            rw [ha]; rfl
          have HB : Hid (m.testBit 5 = true) := hb
          clear hb hth ha hd
          go_wp2_with (first
            | (at_builtin; refine wpList_append_own _ rfl (.tmp 15) (.tmp 20) 22 rfl w.heap.size 9 i9 (.string ByteArray.empty) 1 16 Ybaf.underlying22 hi9 hz9 hs9 hb9 rfl (by decide) _ _ _ rfl (hown.alloc _) ⟨wr.heap.size, 0, none⟩ 1 1 [cell 5] rfl rfl (cell_one_new _ _ _) (by intro u hu; simp at hu; subst hu; rfl) (by unfold maxLen; omega) (by omega) (by have := hbr.size; simp; omega) ?_; intro v' w1 hown' hgrow _)
            | go_in)
          have R2 := appended hown hbr hbr.size hgrow
          have R1 : w1.ownsRow w.heap.size 9 1 v' (n + 1) ((xs ++ [5]).map cell) := by simpa using hown'
          clear hown' hgrow hown hbr
          go_roundw
          case rel => exact ⟨6, n + 1, xs ++ [5], by omega, by rfl, by omega, R1, by rw [hxs.out]; exact (range_snoc_yes HB.out).symm, R2⟩
          case measure => simp [intOf]
        · have hb' : m.testBit 5 = false := by simpa using hb
          have hq : (Go.bits .and .u8 ((m : Int) / 32) 1 == 1) = false := by
            have e : m / 2 ^ 5 % 2 = 0 := by rw [hth] at hb'; simp at hb'; omega
            rw [e] at ha
            have e2 : ((m / 32 : Nat) : Int) = ((m : Int) / 32) := by exact Int.natCast_ediv m 32
            have e3 : m / 2 ^ 5 = m / 32 := by rfl
            rw [e3, e2] at ha
            rw [ha]; rfl
          have HB : Hid (m.testBit 5 = false) := hb'
          clear hb hb' hth ha hd
          go_wp2
          go_roundw
          case rel => exact ⟨6, n, xs, by omega, by rfl, by omega, hown, by rw [hxs.out]; exact (range_snoc_no HB.out).symm, hbr⟩
          case measure => simp [intOf]
      · by_cases hb : m.testBit 6 = true
        · have hq : (Go.bits .and .u8 ((m : Int) / 64) 1 == 1) = true := by
            have e : m / 2 ^ 6 % 2 = 1 := by rw [hth] at hb; simpa using hb
            rw [e] at ha
            have e2 : ((m / 64 : Nat) : Int) = ((m : Int) / 64) := by exact Int.natCast_ediv m 64
            have e3 : m / 2 ^ 6 = m / 64 := by rfl
            rw [e3, e2] at ha
            rw [ha]; rfl
          have HB : Hid (m.testBit 6 = true) := hb
          clear hb hth ha hd
          go_wp2_with (first
            | (at_builtin; refine wpList_append_own _ rfl (.tmp 15) (.tmp 20) 22 rfl w.heap.size 9 i9 (.string ByteArray.empty) 1 16 Ybaf.underlying22 hi9 hz9 hs9 hb9 rfl (by decide) _ _ _ rfl (hown.alloc _) ⟨wr.heap.size, 0, none⟩ 1 1 [cell 6] rfl rfl (cell_one_new _ _ _) (by intro u hu; simp at hu; subst hu; rfl) (by unfold maxLen; omega) (by omega) (by have := hbr.size; simp; omega) ?_; intro v' w1 hown' hgrow _)
            | go_in)
          have R2 := appended hown hbr hbr.size hgrow
          have R1 : w1.ownsRow w.heap.size 9 1 v' (n + 1) ((xs ++ [6]).map cell) := by simpa using hown'
          clear hown' hgrow hown hbr
          go_roundw
          case rel => exact ⟨7, n + 1, xs ++ [6], by omega, by rfl, by omega, R1, by rw [hxs.out]; exact (range_snoc_yes HB.out).symm, R2⟩
          case measure => simp [intOf]
        · have hb' : m.testBit 6 = false := by simpa using hb
          have hq : (Go.bits .and .u8 ((m : Int) / 64) 1 == 1) = false := by
            have e : m / 2 ^ 6 % 2 = 0 := by rw [hth] at hb'; simp at hb'; omega
            rw [e] at ha
            have e2 : ((m / 64 : Nat) : Int) = ((m : Int) / 64) := by exact Int.natCast_ediv m 64
            have e3 : m / 2 ^ 6 = m / 64 := by rfl
            rw [e3, e2] at ha
            rw [ha]; rfl
          have HB : Hid (m.testBit 6 = false) := hb'
          clear hb hb' hth ha hd
          go_wp2
          go_roundw
          case rel => exact ⟨7, n, xs, by omega, by rfl, by omega, hown, by rw [hxs.out]; exact (range_snoc_no HB.out).symm, hbr⟩
          case measure => simp [intOf]
      · by_cases hb : m.testBit 7 = true
        · have hq : (Go.bits .and .u8 ((m : Int) / 128) 1 == 1) = true := by
            have e : m / 2 ^ 7 % 2 = 1 := by rw [hth] at hb; simpa using hb
            rw [e] at ha
            have e2 : ((m / 128 : Nat) : Int) = ((m : Int) / 128) := by exact Int.natCast_ediv m 128
            have e3 : m / 2 ^ 7 = m / 128 := by rfl
            rw [e3, e2] at ha
            rw [ha]; rfl
          have HB : Hid (m.testBit 7 = true) := hb
          clear hb hth ha hd
          go_wp2_with (first
            | (at_builtin; refine wpList_append_own _ rfl (.tmp 15) (.tmp 20) 22 rfl w.heap.size 9 i9 (.string ByteArray.empty) 1 16 Ybaf.underlying22 hi9 hz9 hs9 hb9 rfl (by decide) _ _ _ rfl (hown.alloc _) ⟨wr.heap.size, 0, none⟩ 1 1 [cell 7] rfl rfl (cell_one_new _ _ _) (by intro u hu; simp at hu; subst hu; rfl) (by unfold maxLen; omega) (by omega) (by have := hbr.size; simp; omega) ?_; intro v' w1 hown' hgrow _)
            | go_in)
          have R2 := appended hown hbr hbr.size hgrow
          have R1 : w1.ownsRow w.heap.size 9 1 v' (n + 1) ((xs ++ [7]).map cell) := by simpa using hown'
          clear hown' hgrow hown hbr
          go_roundw
          case rel => exact ⟨8, n + 1, xs ++ [7], by omega, by rfl, by omega, R1, by rw [hxs.out]; exact (range_snoc_yes HB.out).symm, R2⟩
          case measure => simp [intOf]
        · have hb' : m.testBit 7 = false := by simpa using hb
          have hq : (Go.bits .and .u8 ((m : Int) / 128) 1 == 1) = false := by
            have e : m / 2 ^ 7 % 2 = 0 := by rw [hth] at hb'; simp at hb'; omega
            rw [e] at ha
            have e2 : ((m / 128 : Nat) : Int) = ((m : Int) / 128) := by exact Int.natCast_ediv m 128
            have e3 : m / 2 ^ 7 = m / 128 := by rfl
            rw [e3, e2] at ha
            rw [ha]; rfl
          have HB : Hid (m.testBit 7 = false) := hb'
          clear hb hb' hth ha hd
          go_wp2
          go_roundw
          case rel => exact ⟨8, n, xs, by omega, by rfl, by omega, hown, by rw [hxs.out]; exact (range_snoc_no HB.out).symm, hbr⟩
          case measure => simp [intOf]
    · obtain rfl : k = 8 := by omega
      have HV : Hid (∃ a c, u3 = .slice a n c ∧ SL wr a n (plc m) ∧ Nice a n c) := by
        have e : xs = plc m := hxs.out
        subst e
        exact owns_SL hown (by omega) (fun x hx => plc_lt hx)
      clear hown hxs
      go_wp2
      go_ret
      obtain ⟨a, c, e, hsl, hno⟩ := HV.out
      exact ⟨_, rfl, ⟨a, n, c, e, hsl, hno, hm⟩, hbr⟩
end Go.Proofs.YbulkcfrwFmt.Walks
