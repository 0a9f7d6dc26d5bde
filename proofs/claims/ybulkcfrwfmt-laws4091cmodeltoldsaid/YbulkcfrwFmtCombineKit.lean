/- Seat b4091aF: the kit for combine: the budget's cell, appends from any set, and the plain steps. -/
import Derived.Test.YbulkcfrwFmtCompactF
import Derived.Shelf.SlSortCmp.NoneTotal
namespace Go.Proofs.YbulkcfrwFmt.Walks
open Go.RowKit Plain Go.Sort Go.Lib

/-- From w to wr only the budget's cell was turned, to rem; blocks may have been laid. -/
structure Bud (bb : Nat) (rem : Int) (w wr : World) : Prop where
  os : wr.os = w.os
  tape : wr.tape = w.tape
  output : wr.output = w.output
  size : w.heap.size ≤ wr.heap.size
  block : ∀ k, k < w.heap.size → k ≠ bb → wr.heap[k]? = w.heap[k]?
  box : wr.heap[bb]? = some (.cells #[.int .i64 rem] 3 (0, 0))

theorem Bud.start {bb : Nat} {b : Int} {w : World} (h : w.heap[bb]? = some (.cells #[.int .i64 b] 3 (0, 0))) : Bud bb b w w := ⟨rfl, rfl, rfl, Nat.le_refl _, fun _ _ _ => rfl, h⟩
theorem Bud.typ {bb : Nat} {b : Int} {w wr : World} (h : Bud bb b w wr) : Typ wr bb 3 := ⟨_, _, h.box⟩
theorem Bud.cell {bb : Nat} {b : Int} {w wr : World} (h : Bud bb b w wr) : wr.cell? ⟨bb, 0, none⟩ = some (.int .i64 b) := by simp [World.cell?, h.box]
theorem Bud.frozen {bb : Nat} {b : Int} {w wr : World} (h : Bud bb b w wr) : wr.frozen? ⟨bb, 0, none⟩ = false := by simp [World.frozen?, h.box]
theorem Bud.below {bb : Nat} {b : Int} {w wr W : World} {B : Nat} (h : Bud bb b w wr) (k : Below B wr W) (hB : w.heap.size ≤ B) (hbb : bb < B) : Bud bb b w W :=
  ⟨k.os.trans h.os, k.tape.trans h.tape, k.output.trans h.output, Nat.le_trans h.size k.size, fun i hi hne => (k.block i (by omega)).trans (h.block i hi hne), (k.block bb hbb).trans h.box⟩
theorem Bud.store {bb : Nat} {b : Int} {w wr : World} (h : Bud bb b w wr) (b' : Int) : Bud bb b' w (wr.setCell ⟨bb, 0, none⟩ (.int .i64 b')) := by
  refine ⟨h.os, h.tape, h.output, by simpa using h.size, fun i hi hne => ?_, ?_⟩
  · rw [Below.heap_setCell _ _ _ _ hne]; exact h.block i hi hne
  · rw [setCell_eq]
    show (wr.heap.modify bb _)[bb]? = _
    rw [Array.getElem?_modify, if_pos rfl, h.box]
    rfl
theorem Bud.kt {bb : Nat} {b : Int} {w wr : World} (h : Bud bb b w wr) (hT : Typ w bb 3) (S : List TypeId) (h3 : 3 ∉ S) : KT S w wr := fun i T hi hS =>
  h.block i hi.lt fun e => by subst e; exact h3 (hi.one hT ▸ hS)
theorem kt_store {bb : Nat} {w : World} (hT : Typ w bb 3) (S : List TypeId) (h3 : 3 ∉ S) (u : Value) : KT S w (w.setCell ⟨bb, 0, none⟩ u) := fun i T hi hS =>
  Below.heap_setCell w ⟨bb, 0, none⟩ u i fun e => by subst e; exact h3 (hi.one hT ▸ hS)
theorem Bud.trans {bb : Nat} {b b' : Int} {a w wr : World} (h : Bud bb b a w) (k : Bud bb b' w wr) : Bud bb b' a wr :=
  ⟨k.os.trans h.os, k.tape.trans h.tape, k.output.trans h.output, Nat.le_trans h.size k.size, fun i hi hne => (k.block i (Nat.lt_of_lt_of_le hi h.size) hne).trans (h.block i hi hne), k.box⟩
theorem owns_mono {w : World} {base base' : Nat} {e : TypeId} {v : Value} {n : Nat} {vs : List Value} (h : w.ownsRow base e 1 v n vs) (hb : base' ≤ base) : w.ownsRow base' e 1 v n vs := by
  refine ⟨h.1, ?_⟩
  rcases h.2 with h0 | ⟨g, cap, cur, rfl, hbase, h1⟩
  · exact .inl h0
  · exact .inr ⟨g, cap, cur, rfl, by omega, h1⟩
theorem OR.kt {S : List TypeId} {w W : World} {base : Nat} {v : Value} {n : Nat} {ms : List Nat} (h : OR w base v n ms) (k : KT S w W) (h9 : 9 ∈ S) (h22 : 22 ∈ S) : OR W base v n ms := by
  obtain ⟨vs, h1, h2, h3, h4⟩ := h
  exact ⟨vs, owns_kt h1 k h22, h2, h3, fun i hi => (h4 i hi).kt k h9⟩
theorem OR.mono {w : World} {base base' : Nat} {v : Value} {n : Nat} {ms : List Nat} (h : OR w base v n ms) (hb : base' ≤ base) : OR w base' v n ms := by
  obtain ⟨vs, h1, h2⟩ := h
  exact ⟨vs, owns_mono h1 hb, h2⟩
theorem OR.nil (w : World) (base : Nat) : OR w base (.slice none 0 0) 0 [] := ⟨[], World.ownsRow_nil _ _ _ _, rfl, by omega, fun i hi => absurd hi (by omega)⟩
theorem OR.ss {w : World} {base : Nat} {v : Value} {n : Nat} {ms : List Nat} (h : OR w base v n ms) : ∃ a c V, v = .slice a n c ∧ SS w a n V ms ∧ Nice a n c := by
  obtain ⟨vs, h1, h2, h3, h4⟩ := h
  obtain ⟨a, c, e1, e2, e3, e4⟩ := owns_row h1
  exact ⟨a, c, fun i => vs.getD i undef, e1, ⟨h2, h3, e3, h4⟩, e4⟩

/-- slices.SortFunc at a row of sets of the call's own, of whatever length -/
theorem sortFunc_all (w : World) (base : Nat) (v : Value) (n : Nat) (ms : List Nat) (h : OR w base v n ms) :
    Calls Ybaf.prog 20 #[v, .func (.func 12) #[] #[]] w fun e w' => e = .returned (.tuple #[]) ∧ (∃ ms', OR w' base v n ms' ∧ (∀ x, x ∈ ms' ↔ x ∈ ms) ∧ ∀ i j, i < j → j < n → ¬ mcmp (ms'.getD j 0) (ms'.getD i 0) < 0) ∧ Below base w w' := by
  by_cases h0 : n = 0
  · subst h0
    obtain ⟨a, c, V, rfl, -⟩ := h.ss
    exact (AnyF.slices_SortFunc_none Ybaf.laysSortFunc0 a c _ w).mono fun e w' ⟨h1, h2⟩ => ⟨h1, ⟨ms, by rw [h2]; exact h, fun x => Iff.rfl, fun i j _ hj => absurd hj (by omega)⟩, by rw [h2]; exact Below.refl _ _⟩
  · exact (sortFunc_any w base v n ms h h0).mono fun e w' ⟨h1, h2, h3, _⟩ => ⟨h1, h2, h3⟩

/-- append(s, x...) where s is the call's own and x is a slice of any header that this program makes -/
theorem wpList_append_own_nice {P : Program} {w : World} {ops : Array Oper} {rest : List Oper} {o : Oper} {a : Act} {Q : Exit → Act → World → Prop} (hgd : o.guard = none) (s x : Operand) (t : TypeId)
    (ho : o.op = .call { callee := .builtin .append, args := #[s, x], argTypes := #[t, t] })
    (base : Nat) (e : TypeId) (i : TypeInfo) (z : Value) (bytes : Nat) (ht : P.underlying t = some (.slice e)) (hi : P.info? e = some i) (hz : i.zero = some z)
    (hsize : i.size = 1) (hby : i.bytes = bytes) (hzs : z.cells.size = 1)
    (v : Value) (n : Nat) (xs : List Value) (hs : a.eval s = v) (hown : w.ownsRow base e 1 v n xs)
    (ad : Option Addr) (m c : Nat) (hnice : Nice ad m c) (news : List Value) (hx : a.eval x = .slice ad m c) (hl : news.length = m) (hnews : ∀ b, ad = some b → ∀ j u, news[j]? = some u → w.cell? (b.add j) = some u) (h1 : ∀ u ∈ news, u.oneCell' = true)
    (h63 : n + m ≤ maxLen) (hbytes : (n + m) * bytes ≤ 140737488355328) (hbase : base ≤ w.heap.size)
    (h : ∀ v' w', w'.ownsRow base e 1 v' (n + m) (xs ++ news) → w.grownBy w' v.ownBlock → wpList P ops Q rest (a.put o.dst v') w') : wpList P ops Q (o :: rest) a w := by
  cases ad with
  | none =>
    obtain ⟨rfl, rfl⟩ := hnice.1 rfl
    obtain rfl := List.length_eq_zero_iff.1 hl
    refine wpList_append_own_none hgd s x t ho base e i 1 ht hi v n xs hs hown hx ?_
    exact h v w (by simpa using hown) ⟨rfl, rfl, rfl, Nat.le_refl _, fun _ _ _ => rfl⟩
  | some b =>
    exact wpList_append_own w hgd s x t ho base e i z 1 bytes ht hi hz hsize hby hzs (by decide) v n xs hs hown b m c news hx (by simpa using hl) (hnews b rfl) h1 h63 hbytes hbase fun v' w' h2 h3 _ => h v' w' h2 h3

/-! ### plain steps -/
theorem joinedOf_snoc : ∀ (l : List (List Nat)) (s : List Nat), joinedOf (l ++ [s]) = if s.length = 1 then joinedOf l ||| s.headD 0 else joinedOf l
  | [], s => by
    simp only [List.nil_append, joinedOf]
    split <;> simp
  | x :: l, s => by
    simp only [List.cons_append, joinedOf, joinedOf_snoc l s]
    split <;> split <;> simp [Nat.or_assoc]
theorem altsOf_snoc (l : List (List Nat)) (s : List Nat) : altsOf (l ++ [s]) = altsOf l ++ if s.length = 1 then [] else [s] := by
  simp only [altsOf, List.filter_append]
  congr 1
  by_cases h : s.length = 1 <;> simp [h]
theorem take_snoc (req : List (List Nat)) (k : Nat) (h : k < req.length) : req.take (k + 1) = req.take k ++ [req.getD k []] := by
  rw [List.take_add_one, List.getElem?_eq_getElem h]
  simp [List.getD, h]
theorem alts_mem {req : List (List Nat)} {s : List Nat} (h : s ∈ altsOf req) : s ∈ req := (List.mem_filter.1 h).1
theorem stages_step (rem : Int) (us : List Nat) (alts : List (List Nat)) (k : Nat) (h : k < alts.length) :
    stages rem us (alts.drop k) = if (feed rem (prod us (alts.getD k []))).2 then stages (feed rem (prod us (alts.getD k []))).1 (prod us (alts.getD k [])) (alts.drop (k + 1)) else ((feed rem (prod us (alts.getD k []))).1, none) := by
  rw [List.drop_eq_getElem_cons h, stages]
  simp [List.getD, h]
theorem prod_step (us ss : List Nat) (k : Nat) (h : k < us.length) : prod (us.drop k) ss = ss.map (us.getD k 0 ||| ·) ++ prod (us.drop (k + 1)) ss := by
  rw [List.drop_eq_getElem_cons h]
  simp only [prod, List.flatMap_cons, List.getD, List.getElem?_eq_getElem h, Option.getD_some]
theorem map_step (u : Nat) (ss : List Nat) (k : Nat) (h : k < ss.length) : (ss.drop k).map (u ||| ·) = (u ||| ss.getD k 0) :: (ss.drop (k + 1)).map (u ||| ·) := by
  rw [List.drop_eq_getElem_cons h]
  simp only [List.map_cons, List.getD, List.getElem?_eq_getElem h, Option.getD_some]
end Go.Proofs.YbulkcfrwFmt.Walks
