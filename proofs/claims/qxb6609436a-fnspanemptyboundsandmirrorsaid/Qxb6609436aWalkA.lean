/- zzWithin, zzSomeRealPointWithin. -/
import Derived.Test.Qxb6609436aBase
namespace Go.Proofs.Qxb6609436a
open Go.RowKit Go.Proofs
set_option linter.unusedVariables false
set_option linter.unusedSimpArgs false

/-- The lower limit lets the point v (and a half) through; the upper one. -/
def loOk (v : Int) (half ls : Bool) (lv : Int) (li : Bool) : Bool := !ls || (if li then decide (lv ≤ v) else (decide (lv < v) || (decide (v = lv) && half)))
def hiOk (v : Int) (half hs : Bool) (hv : Int) (hi : Bool) : Bool := !hs || (if hi then (decide (v < hv) || (decide (v = hv) && !half)) else decide (v < hv))

/-- The ways a limit may stand to a point. -/
theorem lo_ways (v : Int) (half ls : Bool) (lv : Int) (li : Bool) : (ls = false ∧ loOk v half ls lv li = true) ∨ (ls = true ∧ li = true ∧ v < lv ∧ loOk v half ls lv li = false) ∨ (ls = true ∧ li = true ∧ ¬ v < lv ∧ loOk v half ls lv li = true) ∨
    (ls = true ∧ li = false ∧ lv < v ∧ loOk v half ls lv li = true) ∨ (ls = true ∧ li = false ∧ v = lv ∧ half = true ∧ loOk v half ls lv li = true) ∨ (ls = true ∧ li = false ∧ v = lv ∧ half = false ∧ loOk v half ls lv li = false) ∨ (ls = true ∧ li = false ∧ v < lv ∧ loOk v half ls lv li = false) := by
  rcases Int.lt_trichotomy v lv with h | h | h <;> cases ls <;> cases li <;> cases half <;> simp [loOk] <;> omega
theorem hi_ways (v : Int) (half hs : Bool) (hv : Int) (hi : Bool) : (hs = false ∧ hiOk v half hs hv hi = true) ∨ (hs = true ∧ hi = false ∧ v < hv ∧ hiOk v half hs hv hi = true) ∨ (hs = true ∧ hi = false ∧ ¬ v < hv ∧ hiOk v half hs hv hi = false) ∨
    (hs = true ∧ hi = true ∧ v < hv ∧ hiOk v half hs hv hi = true) ∨ (hs = true ∧ hi = true ∧ v = hv ∧ half = false ∧ hiOk v half hs hv hi = true) ∨ (hs = true ∧ hi = true ∧ v = hv ∧ half = true ∧ hiOk v half hs hv hi = false) ∨ (hs = true ∧ hi = true ∧ hv < v ∧ hiOk v half hs hv hi = false) := by
  rcases Int.lt_trichotomy v hv with h | h | h <;> cases hs <;> cases hi <;> cases half <;> simp [hiOk] <;> omega

set_option maxHeartbeats 2000000 in
theorem within_any (v : Int) (half ls : Bool) (lv : Int) (li hs : Bool) (hv : Int) (hi : Bool) (w : World) :
    Calls Try.prog 9 #[.int .i64 v, .bool half, .bool ls, .int .i64 lv, .bool li, .bool hs, .int .i64 hv, .bool hi] w fun e w' => e = .returned (.bool (loOk v half ls lv li && hiOk v half hs hv hi)) ∧ w' = w := by
  have eqf : ∀ x y : Int, ¬ x = y → (x == y) = false := fun x y h => by rw [beq_eq_false_iff_ne]; exact h
  have H := hi_ways v half hs hv hi
  rcases lo_ways v half ls lv li with ⟨rfl, h⟩ | ⟨rfl, rfl, a, h⟩ | ⟨rfl, rfl, a, h⟩ | ⟨rfl, rfl, a, h⟩ | ⟨rfl, rfl, rfl, rfl, h⟩ | ⟨rfl, rfl, rfl, rfl, h⟩ | ⟨rfl, rfl, a, h⟩
  case inr.inl | inr.inr.inr.inr.inr.inl =>
    rw [h, Bool.false_and]
    go_enter Try.func9, Try.ntmps9
    go_wp2
    go_ret
    exact ⟨rfl, rfl⟩
  case inr.inr.inr.inr.inr.inr =>
    rw [h, Bool.false_and]
    have a1 : ¬ lv < v := by omega
    have a2 := eqf v lv (by omega)
    go_enter Try.func9, Try.ntmps9
    go_wp2
    go_ret
    exact ⟨rfl, rfl⟩
  all_goals
    rw [h, Bool.true_and]
    clear h
    rcases H with ⟨rfl, h⟩ | ⟨rfl, rfl, b, h⟩ | ⟨rfl, rfl, b, h⟩ | ⟨rfl, rfl, b, h⟩ | ⟨rfl, rfl, b, hf, h⟩ | ⟨rfl, rfl, b, hf, h⟩ | ⟨rfl, rfl, b, h⟩
    all_goals try (exact absurd hf (by decide))
    all_goals try subst hf
    all_goals
      rw [h]
      clear h
      try subst b
      try (have b2 := eqf _ _ (Int.ne_of_gt b))
      try (have b3 := Int.not_lt.2 (Int.le_of_lt b))
      go_enter Try.func9, Try.ntmps9
      go_wp2
      go_ret
      exact ⟨rfl, rfl⟩
end Go.Proofs.Qxb6609436a
