/- A proof of Rows.LawS4091AModelSaid. -/
import Derived.Test.YbulkcfrwRows
import Derived.Test.YbulkcfrwModels
import Derived.Test.YbulkcfrwOpen
import Derived.ProofKit
import Derived.OpenShut
import Derived.ShutString
import Derived.ChangeOld
import Derived.Below
namespace Go.Proofs.Ybulkcfrw.lawS4091AModel
open Go.ChangeShapes Go.WideShapes Go.ChangeAt Go.RowKit Plain Walks
open Go.ChangeMaps (open_string shut_string)
set_option linter.unusedVariables false

theorem own : ownKnob Yba.prog.godebug = none := by kernel_rfl
theorem laidOut : laidOutB Yba.prog = true := by kernel_rfl

theorem big (a0 a3 : ByteArray) (a1 : Option Addr) (n1 c1 : Nat) (a2 : Option Addr) (n2 c2 : Nat) (a4 : Option Addr) (n4 c4 : Nat) (a5 : Option Addr) (n5 c5 : Nat) (w : World)
    (h : 1024 < n1 ∨ 1024 < n2 ∨ 1024 < n4 ∨ 1024 < n5) :
    Calls Yba.prog 3 #[.string a0, .slice a1 n1 c1, .slice a2 n2 c2, .string a3, .slice a4 n4 c4, .slice a5 n5 c5] w fun e w' => e = .returned (.bool true) ∧ Below w.heap.size w w' := by
  by_cases h1 : 1024 < n1
  · go_enter Yba.func3, Yba.ntmps3
    go_wp2
    go_ret
    exact ⟨rfl, Below.refl _ _⟩
  by_cases h2 : 1024 < n2
  · go_enter Yba.func3, Yba.ntmps3
    go_wp2
    go_ret
    exact ⟨rfl, Below.refl _ _⟩
  by_cases h3 : 1024 < n4
  · go_enter Yba.func3, Yba.ntmps3
    go_wp2
    go_ret
    exact ⟨rfl, Below.refl _ _⟩
  · have h4 : 1024 < n5 := by omega
    go_enter Yba.func3, Yba.ntmps3
    go_wp2
    go_ret
    exact ⟨rfl, Below.refl _ _⟩

theorem small (a0 a3 : ByteArray) (a1 : Option Addr) (n1 c1 : Nat) (cv : List ByteArray) (a2 : Option Addr) (n2 c2 : Nat) (V2 : Nat → Value) (cs : List (List ByteArray))
    (a4 : Option Addr) (n4 c4 : Nat) (dv : List ByteArray) (a5 : Option Addr) (n5 c5 : Nat) (V5 : Nat → Value) (ds : List (List ByteArray)) (w : World)
    (h1 : SL w a1 n1 cv) (h2 : SS w a2 n2 V2 cs) (h3 : SL w a4 n4 dv) (h4 : SS w a5 n5 V5 ds) (k1 : ¬ 1024 < n1) (k2 : ¬ 1024 < n2) (k3 : ¬ 1024 < n4) (k4 : ¬ 1024 < n5) :
    Calls Yba.prog 3 #[.string a0, .slice a1 n1 c1, .slice a2 n2 c2, .string a3, .slice a4 n4 c4, .slice a5 n5 c5] w fun e w' => e = .returned (.bool true) ∧ Below w.heap.size w w' := by
  obtain ⟨W0, hW0⟩ : ∃ W0, W0 = (w.alloc (.cells #[.string a0, .slice a1 n1 c1, .slice a2 n2 c2] 25)).alloc (.cells #[.string a3, .slice a4 n4 c4, .slice a5 n5 c5] 25) := ⟨_, rfl⟩
  have hB : Below w.heap.size w W0 := by rw [hW0]; exact ((Below.refl _ _).alloc (Nat.le_refl _) _).alloc (by simp) _
  have hI := holdsAll_any a0 a3 a1 n1 c1 cv a2 n2 c2 V2 cs a4 n4 c4 dv a5 n5 c5 V5 ds W0 (h1.later hB) (h2.later hB) (h3.later hB) (h4.later hB)
  have HJ : Hid (∀ W, Below W0.heap.size W0 W → Calls Yba.prog 6 #[.slice a1 n1 c1, .slice a2 n2 c2, .slice a4 n4 c4, .slice a5 n5 c5] W fun e w' => e = .returned (.bool (holds cv cs dv ds)) ∧ Below W.heap.size W w') := fun W hW =>
    model_any a1 n1 c1 cv a2 n2 c2 V2 cs a4 n4 c4 dv a5 n5 c5 V5 ds W ((h1.later hB).later hW) ((h2.later hB).later hW) ((h3.later hB).later hW) ((h4.later hB).later hW)
  clear h1 h2 h3 h4
  generalize holds cv cs dv ds = r at *
  go_enter Yba.func3, Yba.ntmps3
  go_wp2_with (first | (go_at_call 6; refine (HJ.out _ HB1.out).mono ?_; rintro e w2 ⟨rfl, hb2⟩) | (go_at_call 5; rw [← hW0]; refine hI.mono ?_; rintro e w1 ⟨rfl, hb1⟩; have HB1 : Hid (Below W0.heap.size W0 w1) := hb1))
  go_ret
  exact ⟨by simp, (hB.trans (HB1.out.mono hB.size)).trans (hb2.mono (Nat.le_trans hB.size HB1.out.size))⟩

theorem walk (a0 : ByteArray) (a1 : Option Addr) (n1 c1 : Nat) (cv : List ByteArray) (a2 : Option Addr) (n2 c2 : Nat) (V2 : Nat → Value) (cs : List (List ByteArray)) (a3 : ByteArray)
    (a4 : Option Addr) (n4 c4 : Nat) (dv : List ByteArray) (a5 : Option Addr) (n5 c5 : Nat) (V5 : Nat → Value) (ds : List (List ByteArray)) (w : World) (w0 : a0.size ≤ maxLen)
    (h1 : SL w a1 n1 cv) (h2 : SS w a2 n2 V2 cs) (w3 : a3.size ≤ maxLen) (h3 : SL w a4 n4 dv) (h4 : SS w a5 n5 V5 ds) :
    Calls Yba.prog 3 #[.string a0, .slice a1 n1 c1, .slice a2 n2 c2, .string a3, .slice a4 n4 c4, .slice a5 n5 c5] w fun e w' => e = .returned (.bool true) ∧ Below w.heap.size w w' := by
  by_cases h : 1024 < n1 ∨ 1024 < n2 ∨ 1024 < n4 ∨ 1024 < n5
  · exact big a0 a3 a1 n1 c1 a2 n2 c2 a4 n4 c4 a5 n5 c5 w h
  · exact small a0 a3 a1 n1 c1 cv a2 n2 c2 V2 cs a4 n4 c4 dv a5 n5 c5 V5 ds w h1 h2 h3 h4 (by omega) (by omega) (by omega) (by omega)

/-! ### THE ROW's STEP -/
set_option maxRecDepth 100000 in
theorem lifted (os : Os) (started : os.Started) (H : Type) (enc : TypeId × Value → H) :
    ReturnsInHanded {} Yba.checked os 3 .any (Rows.lawS4091AModelSpec.pre6 enc Yba.prog Yba.f3 Rows.lawS4091AModelRow.domain false) (Rows.lawS4091AModelSpec.post enc Yba.prog Yba.f3 false true false false) := by
  refine returnsInHanded_of_change (C := Yba.checked) own started (by kernel_rfl) Yba.func3
    (ChangeSpec.witness6 (enc := enc) (C := Yba.checked) false ⟨#[], #[.string ByteArray.empty, .slice none 0 0, .slice none 0 0, .string ByteArray.empty, .slice none 0 0, .slice none 0 0], []⟩ 8 (by kernel_rfl) (by kernel_rfl) (by kernel_rfl) (by kernel_rfl)) ?_
  intro W base args ds gs before hval0 hW hcnd _
  have hval : ∀ (j : Nat) t v, Yba.f3.params[j]? = some t → args[j]? = some v → Value.okWide Yba.prog W .any base t v := hval0
  have hW' := hW
  obtain ⟨p, q, hA0, hV, rfl, hfz, hnd⟩ := hW
  have hA : DataW.TrodAll enc Yba.prog W 0 (fun _ => true) true Yba.f3.params.toList args.toList ds p := hA0
  rw [Yba.params3] at hA hval
  obtain ⟨v0, vs0, d0, ds0, p0, q0, hargs, rfl, rfl, h0, r0⟩ := trodAll_cons hA
  obtain ⟨v1, vs1, d1, ds1, p1, q1, rfl, rfl, rfl, h1, r1⟩ := trodAll_cons r0
  obtain ⟨v2, vs2, d2, ds2, p2, q2, rfl, rfl, rfl, h2, r2⟩ := trodAll_cons r1
  obtain ⟨v3, vs3, d3, ds3, p3, q3, rfl, rfl, rfl, h3, r3⟩ := trodAll_cons r2
  obtain ⟨v4, vs4, d4, ds4, p4, q4, rfl, rfl, rfl, h4, r4⟩ := trodAll_cons r3
  obtain ⟨v5, vs5, d5, ds5, p5, q5, rfl, rfl, rfl, h5, r5⟩ := trodAll_cons r4
  obtain ⟨rfl, rfl, rfl⟩ := trodAll_nil r5
  obtain rfl : args = #[v0, v1, v2, v3, v4, v5] := by cases args; simp_all
  obtain ⟨rfl, rfl⟩ := trodVars_none hV
  obtain ⟨a0, rfl, rfl, rfl, w0⟩ := open_string Yba.underlying9 (hval 0 9 v0 rfl rfl) h0
  obtain ⟨a1, len1, cap1, rfl⟩ := okWide_slice Yba.underlying22 (hval 1 22 v1 rfl rfl)
  have k1 := h1
  have lt1 : ∀ x ∈ p1, x.block < W.heap.size := by obtain ⟨m, hm⟩ := k1; exact DataW.trod_lt m _ _ _ hm
  obtain ⟨z1, w1⟩ : ∃ zs, SL W a1 len1 zs := by
    obtain ⟨fuel, hf⟩ := h1
    obtain ⟨ss, hs, _⟩ := open_SL Yba.underlying22 Yba.underlying9 (by kernel_rfl) (by simpa [Value.cells] using hf)
    exact ⟨ss, hs⟩
  obtain ⟨a2, len2, cap2, rfl⟩ := okWide_slice Yba.underlying23 (hval 2 23 v2 rfl rfl)
  have k2 := h2
  have lt2 : ∀ x ∈ p2, x.block < W.heap.size := by obtain ⟨m, hm⟩ := k2; exact DataW.trod_lt m _ _ _ hm
  obtain ⟨y2, z2, w2⟩ : ∃ V zs, SS W a2 len2 V zs := by
    obtain ⟨fuel, hf⟩ := h2
    exact open_SS Yba.underlying23 Yba.underlying22 Yba.underlying9 (by kernel_rfl) (by kernel_rfl) (by simpa [Value.cells] using hf)
  obtain ⟨a3, rfl, rfl, rfl, w3⟩ := open_string Yba.underlying9 (hval 3 9 v3 rfl rfl) h3
  obtain ⟨a4, len4, cap4, rfl⟩ := okWide_slice Yba.underlying22 (hval 4 22 v4 rfl rfl)
  have k4 := h4
  have lt4 : ∀ x ∈ p4, x.block < W.heap.size := by obtain ⟨m, hm⟩ := k4; exact DataW.trod_lt m _ _ _ hm
  obtain ⟨z4, w4⟩ : ∃ zs, SL W a4 len4 zs := by
    obtain ⟨fuel, hf⟩ := h4
    obtain ⟨ss, hs, _⟩ := open_SL Yba.underlying22 Yba.underlying9 (by kernel_rfl) (by simpa [Value.cells] using hf)
    exact ⟨ss, hs⟩
  obtain ⟨a5, len5, cap5, rfl⟩ := okWide_slice Yba.underlying23 (hval 5 23 v5 rfl rfl)
  have k5 := h5
  have lt5 : ∀ x ∈ p5, x.block < W.heap.size := by obtain ⟨m, hm⟩ := k5; exact DataW.trod_lt m _ _ _ hm
  obtain ⟨y5, z5, w5⟩ : ∃ V zs, SS W a5 len5 V zs := by
    obtain ⟨fuel, hf⟩ := h5
    exact open_SS Yba.underlying23 Yba.underlying22 Yba.underlying9 (by kernel_rfl) (by kernel_rfl) (by simpa [Value.cells] using hf)
  clear hA0 hval0
  refine (walk a0 a1 len1 cap1 z1 a2 len2 cap2 y2 z2 a3 a4 len4 cap4 z4 a5 len5 cap5 y5 z5 W w0 w1 w2 w3 w4 w5).mono fun e W' ⟨he, bel⟩ => ?_
  subst he
  exact ⟨_, rfl, _, _, _, [], _, [], hW', trodAll_mk1 (shut_bool Yba.underlying4 _), (trodAll_cons_mk (shut_string Yba.underlying9 w0) (trodAll_cons_mk (Below.trod laidOut (by kernel_rfl) (of_decide_eq_true (by kernel_rfl)) k1 bel lt1) (trodAll_cons_mk (Below.trod laidOut (by kernel_rfl) (of_decide_eq_true (by kernel_rfl)) k2 bel lt2) (trodAll_cons_mk (shut_string Yba.underlying9 w3) (trodAll_cons_mk (Below.trod laidOut (by kernel_rfl) (of_decide_eq_true (by kernel_rfl)) k4 bel lt4) (trodAll_cons_mk (Below.trod laidOut (by kernel_rfl) (of_decide_eq_true (by kernel_rfl)) k5 bel lt5) trodAll_mk0)))))), rfl, bel.frame _, fun h => by cases h⟩

theorem over : Rows.lawS4091AModelRow.holds Yba.pinned (OpenSpec.ofChange Rows.lawS4091AModelSpec) :=
  OpenClaim.holds_of_wide 3 Yba.f3 rfl rfl rfl rfl rfl rfl rfl ⟨rfl, rfl, rfl, rfl, rfl⟩ rfl rfl rfl rfl rfl (by kernel_rfl) Yba.func3 (by kernel_rfl)
    (of_decide_eq_true (by kernel_rfl)) (by unfold Func.isWrapper; first | (rw [if_pos (by decide +kernel)]; kernel_rfl) | (rw [if_neg (by decide +kernel)]; exact ⟨rfl, rfl⟩))
    (fun os started H enc _ => lifted os started H enc)

/-- THE STATEMENT -/
theorem proved : Rows.LawS4091AModelSaid := over
end Go.Proofs.Ybulkcfrw.lawS4091AModel
