/- Seat b4091a: holdsAll and its closures. -/
import Derived.Test.YbulkcfrwLeaves
namespace Go.Proofs.Ybulkcfrw.Walks
open Go.RowKit Plain

theorem enters8 (args : Array Value) (w : World) : (callFunc 8 args).run Yba.prog w = .ok (.enter 8 args) w := enters_of Yba.func8 (by kernel_rfl) rfl args w
theorem enters11 (args : Array Value) (w : World) : (callFunc 11 args).run Yba.prog w = .ok (.enter 11 args) w := enters_of Yba.func11 (by kernel_rfl) rfl args w
theorem enters12 (args : Array Value) (w : World) : (callFunc 12 args).run Yba.prog w = .ok (.enter 12 args) w := enters_of Yba.func12 (by kernel_rfl) rfl args w

/-- holdsAll's first closure: v is not among c's values. -/
theorem closure8 (bc : Nat) (a : Option Addr) (n c : Nat) (ss : List ByteArray) (v : ByteArray) (w : World) (hc : w.cell? ⟨bc, 1, none⟩ = some (.slice a n c)) (h : SL w a n ss) :
    Calls Yba.prog 8 (#[.string v] ++ #[.pointer (some ⟨bc, 0, none⟩)]) w fun e w' => e = .returned (.bool (!hasv ss v)) ∧ Below w.heap.size w w' := by
  have hI := contains_any a n c ss v w h
  clear h
  generalize hasv ss v = r at *
  go_enter Yba.func8, Yba.ntmps8
  go_wp2_with (go_at_call 9; refine hI.mono ?_; rintro e w' ⟨rfl, rfl⟩)
  go_ret
  exact ⟨rfl, Below.refl _ _⟩

/-- the innermost: t equals s. -/
theorem closure12 (bs : Nat) (a : Option Addr) (n c : Nat) (ss : List ByteArray) (t : Value) (ts : List ByteArray) (w : World) (hc : w.cell? ⟨bs, 0, none⟩ = some (.slice a n c)) (h : SL w a n ss) (ht : SV w t ts) :
    Calls Yba.prog 12 (#[t] ++ #[.pointer (some ⟨bs, 0, none⟩)]) w fun e w' => e = .returned (.bool (eqss ss ts)) ∧ Below w.heap.size w w' := by
  obtain ⟨a2, n2, c2, rfl, ht⟩ := ht
  have hI := equal_any a n c ss a2 n2 c2 ts w h ht
  clear h ht
  generalize eqss ss ts = r at *
  go_enter Yba.func12, Yba.ntmps12
  go_wp2_with (go_at_call 13; refine hI.mono ?_; rintro e w' ⟨rfl, hb⟩)
  go_ret
  exact ⟨rfl, by assumption⟩

theorem eqss_comm (a b : List ByteArray) : eqss a b = eqss b a := by
  unfold eqss
  by_cases h : a = b
  · subst h; rfl
  · rw [decide_eq_false h, decide_eq_false (fun e => h e.symm)]

/-- holdsAll's second closure: the set s is not among c's sets. -/
theorem closure11 (bc : Nat) (a : Option Addr) (n c : Nat) (V : Nat → Value) (xs : List (List ByteArray)) (s : Value) (ss : List ByteArray) (w : World) (hbc : bc < w.heap.size) (hc : w.cell? ⟨bc, 2, none⟩ = some (.slice a n c)) (h : SS w a n V xs) (hs : SV w s ss) :
    Calls Yba.prog 11 (#[s] ++ #[.pointer (some ⟨bc, 0, none⟩)]) w fun e w' => e = .returned (.bool (!hass xs ss)) ∧ Below w.heap.size w w' := by
  obtain ⟨a2, n2, c2, rfl, hs⟩ := hs
  have hB : Below w.heap.size w (w.alloc (.cells #[.slice a2 n2 c2] 22)) := (Below.refl _ _).alloc (Nat.le_refl _) _
  have h' := h.later hB
  have hI := containsFuncs_any 12 #[.pointer (some ⟨w.heap.size, 0, none⟩)] enters12 a n c V (fun i => eqss ss (xs.getD i [])) (w.alloc (.cells #[.slice a2 n2 c2] 22)) h'.2.1 h'.2.2.1
    (fun W hW i hi => closure12 w.heap.size a2 n2 c2 ss (V i) (xs.getD i []) W
      ((hW.cell (p := ⟨w.heap.size, 0, none⟩) (by simp)).trans (by rw [World.cell?_alloc_at _ _ _ _ rfl]; rfl)) ((hs.later hB).later hW) ((h'.2.2.2 i hi).later hW))
  have e : anyTo (fun i => eqss ss (xs.getD i [])) n = hass xs ss := by
    rw [← h.1, anyTo_list xs [] (fun x => eqss ss x)]
    simp only [hass, eqss_comm]
  rw [e] at hI
  clear h h' hs e
  generalize hass xs ss = r at *
  go_enter Yba.func11, Yba.ntmps11
  go_wp2_with (go_at_call 10; refine hI.mono ?_; rintro e w' ⟨rfl, hb⟩)
  go_ret
  exact ⟨rfl, hB.trans (‹Below (w.alloc _).heap.size _ _›.mono hB.size)⟩


/-- how an AttributeCondition stands as a value -/
def cond (s v x : Value) : Value := .agg #[s, v, x]

set_option maxHeartbeats 1000000 in
theorem holdsAll_any (sc sd : ByteArray) (a1 : Option Addr) (n1 c1 : Nat) (cv : List ByteArray) (a2 : Option Addr) (n2 c2 : Nat) (V2 : Nat → Value) (cs : List (List ByteArray))
    (a3 : Option Addr) (n3 c3 : Nat) (dv : List ByteArray) (a4 : Option Addr) (n4 c4 : Nat) (V4 : Nat → Value) (ds : List (List ByteArray)) (w : World)
    (h1 : SL w a1 n1 cv) (h2 : SS w a2 n2 V2 cs) (h3 : SL w a3 n3 dv) (h4 : SS w a4 n4 V4 ds) :
    Calls Yba.prog 5 #[.agg #[.string sc, .slice a1 n1 c1, .slice a2 n2 c2], .agg #[.string sd, .slice a3 n3 c3, .slice a4 n4 c4]] w fun e w' => e = .returned (.bool (holds cv cs dv ds)) ∧ Below w.heap.size w w' := by
  obtain ⟨W0, hW0⟩ : ∃ W0, W0 = (w.alloc (.cells #[.string sc, .slice a1 n1 c1, .slice a2 n2 c2] 25)).alloc (.cells #[.string sd, .slice a3 n3 c3, .slice a4 n4 c4] 25) := ⟨_, rfl⟩
  have hB : Below w.heap.size w W0 := by rw [hW0]; exact ((Below.refl _ _).alloc (Nat.le_refl _) _).alloc (by simp) _
  have hsz : W0.heap.size = w.heap.size + 1 + 1 := by rw [hW0]; simp
  have hlt0 : w.heap.size < W0.heap.size := by omega
  have hlt1 : w.heap.size + 1 < W0.heap.size := by omega
  have k1 : W0.cell? ⟨w.heap.size, 1, none⟩ = some (.slice a1 n1 c1) := by rw [hW0, World.cell?_alloc_lt _ _ _ (by simp), World.cell?_alloc_at _ _ _ _ rfl]; rfl
  have k2 : W0.cell? ⟨w.heap.size, 2, none⟩ = some (.slice a2 n2 c2) := by rw [hW0, World.cell?_alloc_lt _ _ _ (by simp), World.cell?_alloc_at _ _ _ _ rfl]; rfl
  have k3 : W0.cell? ⟨w.heap.size + 1, 2, none⟩ = some (.slice a4 n4 c4) := by rw [hW0, World.cell?_alloc_at _ _ _ _ (by simp)]; rfl
  have h1 := h1.later hB
  have h2 := h2.later hB
  have h3 := h3.later hB
  have h4 := h4.later hB
  have hI := containsFunc_any 8 #[.pointer (some ⟨w.heap.size, 0, none⟩)] enters8 a3 n3 c3 dv (fun i => !hasv cv (dv.getD i ByteArray.empty)) W0 h3.2.1 h3.2.2
    (fun W hW i _ => closure8 w.heap.size a1 n1 c1 cv _ W ((hW.cell (p := ⟨w.heap.size, 1, none⟩) (by exact hlt0)).trans k1) (h1.later hW))
  have hJ : Hid (∀ W, Below W0.heap.size W0 W → Calls Yba.prog 10 #[.slice a4 n4 c4, .func (.func 11) #[] #[.pointer (some ⟨w.heap.size, 0, none⟩)]] W fun e w' => e = .returned (.bool (anyTo (fun i => !hass cs (ds.getD i [])) n4)) ∧ Below W.heap.size W w') := fun W0' hW0' => by
    have h2 := h2.later hW0'
    have h4 := h4.later hW0'
    have k2 := (hW0'.cell (p := ⟨w.heap.size, 2, none⟩) (by exact hlt0)).trans k2
    have hlt : w.heap.size < W0'.heap.size := by have := hW0'.size; omega
    exact containsFuncs_any 11 #[.pointer (some ⟨w.heap.size, 0, none⟩)] enters11 a4 n4 c4 V4 (fun i => !hass cs (ds.getD i [])) W0' h4.2.1 h4.2.2.1
      (fun W hW i hi => closure11 w.heap.size a2 n2 c2 V2 cs (V4 i) (ds.getD i []) W (Nat.lt_of_lt_of_le hlt hW.size) ((hW.cell (p := ⟨w.heap.size, 2, none⟩) hlt).trans k2) (h2.later hW) ((h4.2.2.2 i hi).later hW))
  have e1 : (!anyTo (fun i => !hasv cv (dv.getD i ByteArray.empty)) n3) = dv.all fun v => hasv cv v := by rw [← h3.1]; exact not_anyTo_all dv ByteArray.empty _
  have e2 : (!anyTo (fun i => !hass cs (ds.getD i [])) n4) = ds.all fun s => hass cs s := by rw [← h4.1]; exact not_anyTo_all ds [] _
  have e3 : holds cv cs dv ds = ((!anyTo (fun i => !hasv cv (dv.getD i ByteArray.empty)) n3) && (!anyTo (fun i => !hass cs (ds.getD i [])) n4)) := by rw [e1, e2]; rfl
  rw [e3]
  clear e1 e2 e3 h1 h2 h3 h4
  generalize anyTo (fun i => !hasv cv (dv.getD i ByteArray.empty)) n3 = r1 at *
  generalize anyTo (fun i => !hass cs (ds.getD i [])) n4 = r2 at *
  cases r1 with
  | true =>
    go_enter Yba.func5, Yba.ntmps5
    go_wp2_with (go_at_call 7; rw [← hW0]; refine hI.mono ?_; rintro e w1 ⟨rfl, hb1⟩)
    go_ret
    refine ⟨rfl, hB.trans (‹Below W0.heap.size W0 _›.mono hB.size)⟩
  | false =>
    go_enter Yba.func5, Yba.ntmps5
    go_wp2_with (first | (go_at_call 10; refine (hJ.out _ HB1.out).mono ?_; rintro e w2 ⟨rfl, hb2⟩) | (go_at_call 7; rw [← hW0]; refine hI.mono ?_; rintro e w1 ⟨rfl, hb1⟩; have k4 := (hb1.cell (p := ⟨w.heap.size + 1, 2, none⟩) (by exact hlt1)).trans k3; have HB1 : Hid (Below W0.heap.size W0 w1) := hb1))
    go_ret
    exact ⟨rfl, (hB.trans (HB1.out.mono hB.size)).trans (hb2.mono (Nat.le_trans hB.size HB1.out.size))⟩
end Go.Proofs.Ybulkcfrw.Walks
