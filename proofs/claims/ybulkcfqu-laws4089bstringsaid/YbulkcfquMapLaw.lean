/- The plain law of seat b4089a: a map filled pair by pair, and the last pair at a key. No program is named. -/
import Derived.Maps.OwnSet
namespace Go.Proofs.Ybulkcfqu.MapLaw
open Go.Maps

/-- What the map reads as behind n stores: the pairs (ks i, vs i), i below n, each over what went before. -/
def putTo (ks : Nat → Lit) (vs : Nat → Int) : Nat → DataW Unit
  | 0 => .map []
  | n + 1 => (putTo ks vs n).put (ks n) (.lit (.int .i64 (vs n)))

/-- The second loop: the value of the last pair that hits, or -1. -/
def wantTo (hit : Nat → Bool) (vs : Nat → Int) : Nat → Int
  | 0 => -1
  | n + 1 => if hit n = true then vs n else wantTo hit vs n

theorem putTo_isMap (ks : Nat → Lit) (vs : Nat → Int) (n : Nat) : IsMap (putTo ks vs n) := by
  induction n with
  | zero => exact isMap_empty
  | succ n ih => exact ih.put _ _

theorem law (ks : Nat → Lit) (vs : Nat → Int) (hit : Nat → Bool) (kl : Lit) (n : Nat) (hk : WideAt.IsKeyLit kl) (hh : ∀ i, i < n → (hit i = true ↔ ks i = kl)) :
    (Maps.has (putTo ks vs n) kl = true ∧ ∀ z, (putTo ks vs n).atKey kl z = .lit (.int .i64 (wantTo hit vs n))) ∨ (Maps.has (putTo ks vs n) kl = false ∧ wantTo hit vs n = -1) := by
  induction n with
  | zero => exact .inr ⟨rfl, rfl⟩
  | succ n ih =>
    have ih := ih (fun i hi => hh i (by omega))
    by_cases h : hit n = true
    · have e := (hh n (by omega)).1 h
      refine .inl ⟨?_, fun z => ?_⟩
      · show Maps.has ((putTo ks vs n).put (ks n) _) kl = true
        rw [e]
        exact has_put_same (putTo_isMap ks vs n) hk _
      · show ((putTo ks vs n).put (ks n) _).atKey kl z = _
        rw [e, atKey_put_same (putTo_isMap ks vs n) hk]
        simp [wantTo, h]
    · have hne : kl ≠ ks n := fun e => h ((hh n (by omega)).2 e.symm)
      have ew : wantTo hit vs (n + 1) = wantTo hit vs n := by simp [wantTo, h]
      rw [ew]
      rcases ih with ⟨i1, i2⟩ | ⟨i1, i2⟩
      · refine .inl ⟨?_, fun z => ?_⟩
        · show Maps.has ((putTo ks vs n).put (ks n) _) kl = true
          rw [has_put_other hne]
          exact i1
        · show ((putTo ks vs n).put (ks n) _).atKey kl z = _
          rw [atKey_put_other hne]
          exact i2 z
      · refine .inr ⟨?_, i2⟩
        show Maps.has ((putTo ks vs n).put (ks n) _) kl = false
        rw [has_put_other hne]
        exact i1

theorem isKey_int (k : IntKind) (a : Int) : WideAt.IsKeyLit (.int k a) := by simp [WideAt.IsKeyLit]
theorem isKey_string (l : List UInt8) : WideAt.IsKeyLit (.string l) := by simp [WideAt.IsKeyLit]
end Go.Proofs.Ybulkcfqu.MapLaw
