/- Seat b4091aF: the walk of zzs4091cmodel. -/
import Derived.Test.YbulkcfrwFmtCombine
import Derived.Deep.MidRow
import Derived.Deep.WholeRow
import Derived.Laws.ResultCell
namespace Go.Proofs.YbulkcfrwFmt.Walks
open Go.RowKit Plain Go.Sort Go.Lib

def u8c (m : Nat) : Value := .int .u8 m
/-- a slice of masks -/
def BL (w : World) (a : Option Addr) (n : Nat) (xs : List Nat) : Prop :=
  xs.length = n ∧ (∀ x ∈ xs, x < 256) ∧ (0 < n → ∃ b off, a = some ⟨b, off, none⟩ ∧ b < w.heap.size ∧ ∀ i, i < n → w.cell? ⟨b, off + i, none⟩ = some (.int .u8 (xs.getD i 0 : Nat)))
def BV (w : World) (v : Value) (xs : List Nat) : Prop := ∃ a n c, v = .slice a n c ∧ BL w a n xs ∧ (a = none → n = 0 ∧ c = 0)
/-- a slice of slices of masks -/
def TB (w : World) (a : Option Addr) (n : Nat) (V : Nat → Value) (mss : List (List Nat)) : Prop :=
  mss.length = n ∧ (0 < n → ∃ b off, a = some ⟨b, off, none⟩ ∧ b < w.heap.size ∧ ∀ i, i < n → w.cell? ⟨b, off + i, none⟩ = some (V i)) ∧ ∀ i, i < n → BV w (V i) (mss.getD i [])
theorem BL.later {w W : World} {a : Option Addr} {n : Nat} {xs : List Nat} (h : BL w a n xs) (hb : Below w.heap.size w W) : BL W a n xs := by
  obtain ⟨h1, h2, h3⟩ := h
  refine ⟨h1, h2, fun hn => ?_⟩
  obtain ⟨b, off, e, hl, hc⟩ := h3 hn
  exact ⟨b, off, e, Nat.lt_of_lt_of_le hl hb.size, fun i hi => (hb.cell (p := ⟨b, off + i, none⟩) hl).trans (hc i hi)⟩
theorem BV.later {w W : World} {v : Value} {xs : List Nat} (h : BV w v xs) (hb : Below w.heap.size w W) : BV W v xs := by
  obtain ⟨a, n, c, e, h1, h2⟩ := h
  exact ⟨a, n, c, e, h1.later hb, h2⟩
theorem TB.later {w W : World} {a : Option Addr} {n : Nat} {V : Nat → Value} {mss : List (List Nat)} (h : TB w a n V mss) (hb : Below w.heap.size w W) : TB W a n V mss := by
  obtain ⟨h1, h2, h3⟩ := h
  refine ⟨h1, fun hn => ?_, fun i hi => (h3 i hi).later hb⟩
  obtain ⟨b, off, e, hl, hc⟩ := h2 hn
  exact ⟨b, off, e, Nat.lt_of_lt_of_le hl hb.size, fun i hi => (hb.cell (p := ⟨b, off + i, none⟩) hl).trans (hc i hi)⟩
/-- a row of masks of the call's own -/
def BR (w : World) (base : Nat) (v : Value) (n : Nat) (us : List Nat) : Prop := w.ownsRow base 5 1 v n (us.map u8c) ∧ (∀ x ∈ us, x < 256) ∧ n ≤ 1048576
theorem BR.nil (w : World) (base : Nat) : BR w base (.slice none 0 0) 0 [] := ⟨World.ownsRow_nil _ _ _ _, by simp, by omega⟩
theorem BR.bl {w : World} {base : Nat} {v : Value} {n : Nat} {us : List Nat} (h : BR w base v n us) : ∃ a c, v = .slice a n c ∧ BL w a n us := by
  obtain ⟨h1, h2, h3⟩ := h
  obtain ⟨a, c, e1, e2, e3, e4⟩ := owns_row h1
  have hl : us.length = n := by simpa using e2
  refine ⟨a, c, e1, hl, h2, fun hn => ?_⟩
  obtain ⟨b, off, r1, r2, r3⟩ := e3 hn
  refine ⟨b, off, r1, r2.lt, fun i hi => ?_⟩
  rw [r3 i hi]
  simp [List.getD, List.getElem?_eq_getElem (show i < us.length by omega), u8c]
theorem BR.later {w W : World} {base : Nat} {v : Value} {n : Nat} {us : List Nat} (h : BR w base v n us) (hb : Below w.heap.size w W) : BR W base v n us := ⟨owns_kt h.1 (KT.below (S := [5]) hb) (by decide), h.2⟩
theorem BR.mono {w : World} {base base' : Nat} {v : Value} {n : Nat} {us : List Nat} (h : BR w base v n us) (hb : base' ≤ base) : BR w base' v n us := ⟨owns_mono h.1 hb, h.2⟩
theorem BR.one {w : World} {base m : Nat} (hb : base ≤ w.heap.size) (hm : m < 256) : BR (w.alloc (.cells #[.int .u8 m] 5)) base (.slice (some ⟨w.heap.size, 0, none⟩) 1 1) 1 [m] :=
  ⟨⟨rfl, .inr ⟨w.heap.size, 1, #[.int .u8 m], rfl, hb, heap_alloc_new w _, Nat.le_refl _, by unfold maxLen; omega, rfl, rfl⟩⟩, by simpa using hm, by omega⟩
theorem cells_BL {w : World} {a : Option Addr} {n : Nat} {xs : List Nat} (h : BL w a n xs) : ∀ ad, a = some ad → ∀ j u, (xs.map u8c)[j]? = some u → w.cell? (ad.add j) = some u := by
  intro ad ha j u hu
  have hj : j < xs.length := by have := (List.getElem?_eq_some_iff.1 hu).1; simpa using this
  obtain ⟨b, off, e, _, hc⟩ := h.2.2 (by have := h.1; omega)
  rw [e] at ha
  cases ha
  rw [Addr.add_lit, hc j (by have := h.1; omega)]
  rw [List.getElem?_map, List.getElem?_eq_getElem hj] at hu
  simp at hu
  simp [List.getD, List.getElem?_eq_getElem hj, ← hu, u8c]
theorem one_u8 (xs : List Nat) : ∀ u ∈ xs.map u8c, u.oneCell' = true := by
  intro u hu
  obtain ⟨x, _, rfl⟩ := List.mem_map.1 hu
  rfl
theorem balts_append {w : World} {avs : List Value} {alts : List (List Nat)} {n : Nat} {v : Value} {s : List Nat} (h1 : avs.length = n) (h2 : alts.length = n) (h : ∀ i, i < n → BV w (avs.getD i undef) (alts.getD i [])) (hv : BV w v s) :
    ∀ i, i < n + 1 → BV w ((avs ++ [v]).getD i undef) ((alts ++ [s]).getD i []) := fun i hi => by
  by_cases e : i < n
  · have := h i e
    simpa [List.getD, List.getElem?_append_left (show i < avs.length by omega), List.getElem?_append_left (show i < alts.length by omega)] using this
  · obtain rfl : i = n := by omega
    simpa [List.getD, List.getElem?_append_right (show avs.length ≤ i by omega), List.getElem?_append_right (show alts.length ≤ i by omega), h1, h2] using hv

/-! ### the array of what was seen -/
def seenL (us : List Nat) : List Value := (List.range 256).map fun i => .bool (decide (i ∈ us))
theorem seenL_len (us : List Nat) : (seenL us).length = 256 := by simp [seenL]
theorem seenL_one (us : List Nat) : (seenL us).toArray.all (·.oneCell') = true := all_oneCell_toArray fun v hv => by
  obtain ⟨i, _, rfl⟩ := List.mem_map.1 hv
  rfl
theorem seenL_nil : (Array.replicate 256 (Value.bool false)) = (seenL []).toArray := by
  apply Array.ext
  · simp [seenL_len]
  · intro i h1 h2
    simp [seenL]
theorem seenL_get (us : List Nat) (i : Nat) (hi : i < 256) : (seenL us)[i]? = some (.bool (decide (i ∈ us))) := by simp [seenL, hi]
theorem seenL_snoc (us : List Nat) (m : Nat) : (seenL us).toArray.setIfInBounds m (.bool true) = (seenL (us ++ [m])).toArray := by
  apply Array.ext
  · simp [seenL_len]
  · intro i h1 h2
    have hi : i < 256 := by simpa [seenL_len] using h2
    rw [Array.getElem_setIfInBounds (by simpa [seenL_len] using hi)]
    by_cases e : m = i
    · subst e; simp [seenL]
    · have e' : ¬ i = m := fun h => e h.symm
      simp [seenL, e, e']
/-- the block of an array of bools -/
def SB (w : World) (b : Nat) (us : List Nat) : Prop := w.heap[b]? = some (.cells (seenL us).toArray 38 (0, 0))
theorem SB.cell {w : World} {b : Nat} {us : List Nat} (h : SB w b us) (i : Nat) (hi : i < 256) : w.cell? ⟨b, i, none⟩ = some (.bool (decide (i ∈ us))) := by
  rw [cell_of_row w b i _ 38 (0, 0) h]
  simpa using seenL_get us i hi
theorem SB.frozen {w : World} {b : Nat} {us : List Nat} (h : SB w b us) (i : Nat) : w.frozen? ⟨b, i, none⟩ = false := by
  unfold SB at h
  simp [World.frozen?, h]
theorem SB.range {w : World} {b : Nat} {us : List Nat} (h : SB w b us) : w.rangeAt b 0 (seenL us) := fun j v hv => by
  rw [Nat.zero_add, cell_of_row w b j _ 38 (0, 0) h]
  simpa using hv
theorem SB.there {w : World} {b : Nat} {us : List Nat} (h : SB w b us) : w.there b 0 256 := fun j hj => by
  rw [Nat.zero_add, h.cell j hj]
  exact ⟨rfl, h.frozen j⟩
theorem SB.later {w W : World} {b : Nat} {us : List Nat} (h : SB w b us) {B : Nat} (hb : Below B w W) (hB : b < B) : SB W b us := (hb.block b hB).trans h
theorem SB.store {w : World} {b : Nat} {us : List Nat} (h : SB w b us) (m : Nat) : SB (w.setCell ⟨b, m, none⟩ (.bool true)) b (us ++ [m]) := by
  unfold SB at *
  rw [setCell_eq]
  show (w.heap.modify b _)[b]? = _
  rw [Array.getElem?_modify, if_pos rfl, h, ← seenL_snoc]
  rfl
theorem facts38 : (Ybaf.prog.info? 38).map (fun i => (i.zero, i.size)) = some (some (.agg (Array.replicate 256 (.bool false))), 256) := by kernel_rfl
theorem facts5 : (Ybaf.prog.info? 5).map (fun i => (i.zero, i.size, i.bytes)) = some (some (.int .u8 0), 1, 1) := by kernel_rfl
theorem facts29 : (Ybaf.prog.info? 29).map (fun i => (i.zero, i.size, i.bytes)) = some (some (.slice none 0 0), 1, 24) := by kernel_rfl
theorem zero38 (w : World) : (zeroValue 38).run Ybaf.prog w = .ok (.agg (seenL []).toArray) w := by
  rw [(zero_of_info facts38).1 w, seenL_nil]
theorem size38 (us : List Nat) : (Ybaf.prog.info? 38).map (·.size) = some (seenL us).length := by
  rw [seenL_len]; exact (zero_of_info facts38).2

/-- append(s, x...), s the call's own, x nil or not -/
theorem wpList_append_own_src {P : Program} {w : World} {ops : Array Oper} {rest : List Oper} {o : Oper} {a : Act} {Q : Exit → Act → World → Prop} (hgd : o.guard = none) (s x : Operand) (t : TypeId)
    (ho : o.op = .call { callee := .builtin .append, args := #[s, x], argTypes := #[t, t] })
    (base : Nat) (e : TypeId) (i : TypeInfo) (z : Value) (bytes : Nat) (ht : P.underlying t = some (.slice e)) (hi : P.info? e = some i) (hz : i.zero = some z)
    (hsize : i.size = 1) (hby : i.bytes = bytes) (hzs : z.cells.size = 1)
    (v : Value) (n : Nat) (xs : List Value) (hs : a.eval s = v) (hown : w.ownsRow base e 1 v n xs)
    (ad : Option Addr) (m c : Nat) (hnice : ad = none → m = 0 ∧ c = 0) (news : List Value) (hx : a.eval x = .slice ad m c) (hl : news.length = m) (hnews : ∀ b, ad = some b → ∀ j u, news[j]? = some u → w.cell? (b.add j) = some u) (h1 : ∀ u ∈ news, u.oneCell' = true)
    (h63 : n + m ≤ maxLen) (hbytes : (n + m) * bytes ≤ 140737488355328) (hbase : base ≤ w.heap.size)
    (h : ∀ v' w', w'.ownsRow base e 1 v' (n + m) (xs ++ news) → w.grownBy w' v.ownBlock → wpList P ops Q rest (a.put o.dst v') w') : wpList P ops Q (o :: rest) a w := by
  cases ad with
  | none =>
    obtain ⟨rfl, rfl⟩ := hnice rfl
    obtain rfl := List.length_eq_zero_iff.1 hl
    refine wpList_append_own_none hgd s x t ho base e i 1 ht hi v n xs hs hown hx ?_
    exact h v w (by simpa using hown) ⟨rfl, rfl, rfl, Nat.le_refl _, fun _ _ _ => rfl⟩
  | some b =>
    exact wpList_append_own w hgd s x t ho base e i z 1 bytes ht hi hz hsize hby hzs (by decide) v n xs hs hown b m c news hx (by simpa using hl) (hnews b rfl) h1 h63 hbytes hbase fun v' w' h2 h3 _ => h v' w' h2 h3

theorem results_cell_tmp2 {fn : Func} {p u v : Tmp} {ty : TypeId} (h : fn.results = #[.cell p ty, .tmp u, .tmp v]) (tmps : Array Value) (P : Program) (w : World) :
    (results fn tmps).run P w =
      ((asAddr (tmps.getD p undef)).run P w).andThen fun a w₁ => ((loadVar ty a).run P w₁).andThen fun x w₂ => .ok (.tuple #[x, tmps.getD u undef, tmps.getD v undef]) w₂ := by
  simp only [results, h]
  simp [Sem.run_bind, Result.andThen]
end Go.Proofs.YbulkcfrwFmt.Walks
