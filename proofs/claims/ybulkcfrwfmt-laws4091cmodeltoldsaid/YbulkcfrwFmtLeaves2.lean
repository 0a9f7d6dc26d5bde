/- Seat b4091aF: the walk of zzs4091cmask. -/
import Derived.Test.YbulkcfrwFmtLeaves1
namespace Go.Proofs.YbulkcfrwFmt.Walks
open Go.RowKit Plain

/-- the mask of places -/
def accOf (xs : List Nat) : Nat := xs.foldl (fun acc x => acc ||| 2 ^ x) 0
theorem accOf_plc {m : Nat} (h : m < 256) : accOf (plc m) = m := by
  have : ∀ y : Fin 256, accOf (plc y.1) = y.1 := by decide +kernel
  exact this ⟨m, h⟩
theorem accOf_snoc (xs : List Nat) (x : Nat) : accOf (xs ++ [x]) = accOf xs ||| 2 ^ x := by simp [accOf, List.foldl_append]
theorem take_snocN (xs : List Nat) (k : Nat) (h : k < xs.length) : xs.take (k + 1) = xs.take k ++ [xs.getD k 0] := by
  rw [List.take_succ_eq_append_getElem h]; simp [List.getD, h]

set_option maxHeartbeats 4000000 in
set_option maxRecDepth 100000 in
/-- zzs4091cmask at the set of mask m -/
theorem cmask_any (v : Value) (m : Nat) (w : World) (h : MS w v m) :
    Calls Ybaf.prog 11 #[v] w fun e w' => e = .returned (.tuple #[.int .u8 m, .bool true]) ∧ w = w' := by
  obtain ⟨a, n, c, rfl, ⟨h1, h2, h3, h4⟩, _, hm⟩ := h
  have hfin := accOf_plc hm
  have HFin : Hid (accOf (plc m) = m) := hfin
  have hsort := plc_sorted m
  have HS : Hid (∀ i j, i < j → j < n → (plc m).getD i 0 < (plc m).getD j 0) := fun i j hij hj => by
    have := List.pairwise_iff_getElem.1 hsort i j (by omega) (by omega) hij
    simpa [List.getD, List.getElem?_eq_getElem (show i < (plc m).length by omega), List.getElem?_eq_getElem (show j < (plc m).length by omega)] using this
  have HX : Hid (∀ i, i < n → (plc m).getD i 0 < 8) := fun i hi => h3 _ (by rw [List.getD, List.getElem?_eq_getElem (by omega)]; simp)
  have HL : Hid ((plc m).length = n) := h1
  clear hfin hsort h3 h1
  generalize plc m = xs at *
  go_enter Ybaf.func11, Ybaf.ntmps11
  go_wp2
  go_loop [4, 5, 7, 8, 11] (fun am pv _ _ i => ∃ (k acc : Nat) (p : Int), k ≤ n ∧ i = .int .i64 k ∧ am = .int .u8 acc ∧ pv = .int .i64 p ∧ acc < 256 ∧ -1 ≤ p ∧ p < 8 ∧ Hid (acc = accOf (xs.take k)) ∧ Hid (∀ j, k ≤ j → j < n → p < (xs.getD j 0 : Nat))) (fun _ _ _ _ i => n - (intOf i).toNat)
  case atStart => exact ⟨0, 0, -1, Nat.zero_le _, rfl, rfl, rfl, by omega, by omega, by omega, rfl, fun j _ _ => by omega⟩
  case round =>
    obtain ⟨k, acc, p, hk, rfl, rfl, rfl, hacc, hp1, hp2, A, B⟩ := hrel
    by_cases hlt : k < n
    · obtain ⟨b, off, rfl, hb, hc⟩ := h4 (by omega)
      have q0 := hc k hlt
      have hx := HX.out k hlt
      have hpx := B.out k (Nat.le_refl _) hlt
      have hltz : (k : Int) < (n : Int) := by omega
      have AS : Hid (∀ x, xs.getD k 0 = x → acc ||| 2 ^ x = accOf (xs.take (k + 1))) := fun x e => by
        rw [take_snocN xs k (by have := HL.out; omega), accOf_snoc, e, A.out]
      have BS : Hid (∀ x : Nat, xs.getD k 0 = x → ∀ j, k + 1 ≤ j → j < n → (x : Int) < (xs.getD j 0 : Nat)) := fun x e j hj1 hj2 => by
        have := HS.out k j (by omega) hj2
        omega
      clear hc h4 A B
      generalize hxx : xs.getD k 0 = x at q0 hx hpx
      have HXX : Hid (xs.getD k 0 = x) := hxx
      clear hxx
      have hcase : x = 0 ∨ x = 1 ∨ x = 2 ∨ x = 3 ∨ x = 4 ∨ x = 5 ∨ x = 6 ∨ x = 7 := by omega
      rcases hcase with rfl | rfl | rfl | rfl | rfl | rfl | rfl | rfl
      · have q1 : w.cell? ⟨b, off + k, none⟩ = some (.string ⟨#[97]⟩) := q0
        have hby : ((⟨#[97]⟩ : ByteArray)[0]'(by decide)).toNat = 97 := rfl
        have ho : Go.bits .or .u8 (acc : Int) 1 = ((acc ||| 1 : Nat) : Int) := u8_or_nat acc 1 hacc (by omega)
        have hov : acc ||| 1 < 256 := or_lt hacc (by omega)
        have hp3 : p < 0 := by omega
        clear q0 hpx
        go_wp2
        go_round
        case rel => exact ⟨k + 1, acc ||| 1, 0, by omega, by go_num, rfl, rfl, hov, by omega, by omega, AS.out 0 HXX.out, BS.out 0 HXX.out⟩
        case measure => simp [intOf]; omega
      · have q1 : w.cell? ⟨b, off + k, none⟩ = some (.string ⟨#[98]⟩) := q0
        have hby : ((⟨#[98]⟩ : ByteArray)[0]'(by decide)).toNat = 98 := rfl
        have ho : Go.bits .or .u8 (acc : Int) 2 = ((acc ||| 2 : Nat) : Int) := u8_or_nat acc 2 hacc (by omega)
        have hov : acc ||| 2 < 256 := or_lt hacc (by omega)
        have hp3 : p < 1 := by omega
        clear q0 hpx
        go_wp2
        go_round
        case rel => exact ⟨k + 1, acc ||| 2, 1, by omega, by go_num, rfl, rfl, hov, by omega, by omega, AS.out 1 HXX.out, BS.out 1 HXX.out⟩
        case measure => simp [intOf]; omega
      · have q1 : w.cell? ⟨b, off + k, none⟩ = some (.string ⟨#[99]⟩) := q0
        have hby : ((⟨#[99]⟩ : ByteArray)[0]'(by decide)).toNat = 99 := rfl
        have ho : Go.bits .or .u8 (acc : Int) 4 = ((acc ||| 4 : Nat) : Int) := u8_or_nat acc 4 hacc (by omega)
        have hov : acc ||| 4 < 256 := or_lt hacc (by omega)
        have hp3 : p < 2 := by omega
        clear q0 hpx
        go_wp2
        go_round
        case rel => exact ⟨k + 1, acc ||| 4, 2, by omega, by go_num, rfl, rfl, hov, by omega, by omega, AS.out 2 HXX.out, BS.out 2 HXX.out⟩
        case measure => simp [intOf]; omega
      · have q1 : w.cell? ⟨b, off + k, none⟩ = some (.string ⟨#[100]⟩) := q0
        have hby : ((⟨#[100]⟩ : ByteArray)[0]'(by decide)).toNat = 100 := rfl
        have ho : Go.bits .or .u8 (acc : Int) 8 = ((acc ||| 8 : Nat) : Int) := u8_or_nat acc 8 hacc (by omega)
        have hov : acc ||| 8 < 256 := or_lt hacc (by omega)
        have hp3 : p < 3 := by omega
        clear q0 hpx
        go_wp2
        go_round
        case rel => exact ⟨k + 1, acc ||| 8, 3, by omega, by go_num, rfl, rfl, hov, by omega, by omega, AS.out 3 HXX.out, BS.out 3 HXX.out⟩
        case measure => simp [intOf]; omega
      · have q1 : w.cell? ⟨b, off + k, none⟩ = some (.string ⟨#[101]⟩) := q0
        have hby : ((⟨#[101]⟩ : ByteArray)[0]'(by decide)).toNat = 101 := rfl
        have ho : Go.bits .or .u8 (acc : Int) 16 = ((acc ||| 16 : Nat) : Int) := u8_or_nat acc 16 hacc (by omega)
        have hov : acc ||| 16 < 256 := or_lt hacc (by omega)
        have hp3 : p < 4 := by omega
        clear q0 hpx
        go_wp2
        go_round
        case rel => exact ⟨k + 1, acc ||| 16, 4, by omega, by go_num, rfl, rfl, hov, by omega, by omega, AS.out 4 HXX.out, BS.out 4 HXX.out⟩
        case measure => simp [intOf]; omega
      · have q1 : w.cell? ⟨b, off + k, none⟩ = some (.string ⟨#[102]⟩) := q0
        have hby : ((⟨#[102]⟩ : ByteArray)[0]'(by decide)).toNat = 102 := rfl
        have ho : Go.bits .or .u8 (acc : Int) 32 = ((acc ||| 32 : Nat) : Int) := u8_or_nat acc 32 hacc (by omega)
        have hov : acc ||| 32 < 256 := or_lt hacc (by omega)
        have hp3 : p < 5 := by omega
        clear q0 hpx
        go_wp2
        go_round
        case rel => exact ⟨k + 1, acc ||| 32, 5, by omega, by go_num, rfl, rfl, hov, by omega, by omega, AS.out 5 HXX.out, BS.out 5 HXX.out⟩
        case measure => simp [intOf]; omega
      · have q1 : w.cell? ⟨b, off + k, none⟩ = some (.string ⟨#[103]⟩) := q0
        have hby : ((⟨#[103]⟩ : ByteArray)[0]'(by decide)).toNat = 103 := rfl
        have ho : Go.bits .or .u8 (acc : Int) 64 = ((acc ||| 64 : Nat) : Int) := u8_or_nat acc 64 hacc (by omega)
        have hov : acc ||| 64 < 256 := or_lt hacc (by omega)
        have hp3 : p < 6 := by omega
        clear q0 hpx
        go_wp2
        go_round
        case rel => exact ⟨k + 1, acc ||| 64, 6, by omega, by go_num, rfl, rfl, hov, by omega, by omega, AS.out 6 HXX.out, BS.out 6 HXX.out⟩
        case measure => simp [intOf]; omega
      · have q1 : w.cell? ⟨b, off + k, none⟩ = some (.string ⟨#[104]⟩) := q0
        have hby : ((⟨#[104]⟩ : ByteArray)[0]'(by decide)).toNat = 104 := rfl
        have ho : Go.bits .or .u8 (acc : Int) 128 = ((acc ||| 128 : Nat) : Int) := u8_or_nat acc 128 hacc (by omega)
        have hov : acc ||| 128 < 256 := or_lt hacc (by omega)
        have hp3 : p < 7 := by omega
        clear q0 hpx
        go_wp2
        go_round
        case rel => exact ⟨k + 1, acc ||| 128, 7, by omega, by go_num, rfl, rfl, hov, by omega, by omega, AS.out 7 HXX.out, BS.out 7 HXX.out⟩
        case measure => simp [intOf]; omega
    · have hltz : ¬ (k : Int) < (n : Int) := by omega
      have HA : Hid (acc = m) := by
        have := A.out
        rw [List.take_of_length_le (by have := HL.out; omega)] at this
        show acc = m
        rw [this, HFin.out]
      clear h4 A B
      go_wp2
      go_ret2
      exact ⟨by rw [HA.out]; rfl, rfl⟩
end Go.Proofs.YbulkcfrwFmt.Walks
