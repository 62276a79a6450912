/- zzSomeRealPointWithin; the plain laws. -/
import Derived.Test.Qxb6609436aWalkA
namespace Go.Proofs.Qxb6609436a
open Go.RowKit Go.Proofs
set_option linter.unusedVariables false
set_option linter.unusedSimpArgs false

def wth (v : Int) (half ls : Bool) (lv : Int) (li hs : Bool) (hv : Int) (hi : Bool) : Bool := loOk v half ls lv li && hiOk v half hs hv hi
def some1 (ls : Bool) (lv : Int) (li hs : Bool) (hv : Int) (hi : Bool) : Bool := !ls || (wth lv false ls lv li hs hv hi || wth lv true ls lv li hs hv hi)

theorem some_any (ls : Bool) (lv : Int) (li hs : Bool) (hv : Int) (hi : Bool) (w : World) :
    Calls Try.prog 7 #[.bool ls, .int .i64 lv, .bool li, .bool hs, .int .i64 hv, .bool hi] w fun e w' => e = .returned (.bool (some1 ls lv li hs hv hi)) ∧ w' = w := by
  have H0 : Hid (Calls Try.prog 9 #[.int .i64 lv, .bool false, .bool ls, .int .i64 lv, .bool li, .bool hs, .int .i64 hv, .bool hi] w fun e w' => e = .returned (.bool (wth lv false ls lv li hs hv hi)) ∧ w' = w) := within_any lv false ls lv li hs hv hi w
  have H1 : Hid (Calls Try.prog 9 #[.int .i64 lv, .bool true, .bool ls, .int .i64 lv, .bool li, .bool hs, .int .i64 hv, .bool hi] w fun e w' => e = .returned (.bool (wth lv true ls lv li hs hv hi)) ∧ w' = w) := within_any lv true ls lv li hs hv hi w
  unfold some1
  generalize wth lv false ls lv li hs hv hi = r0 at *
  generalize wth lv true ls lv li hs hv hi = r1 at *
  cases ls
  · go_enter Try.func7, Try.ntmps7
    go_wp2_with fail
    go_ret
    exact ⟨rfl, rfl⟩
  · go_enter Try.func7, Try.ntmps7
    go_wp2_with fail
    refine H0.out.mono ?_
    rintro e w1 ⟨rfl, rfl⟩
    cases r0
    · go_wp2_with fail
      refine H1.out.mono ?_
      rintro e w2 ⟨rfl, rfl⟩
      go_wp2_with fail
      go_ret
      exact ⟨by cases r1 <;> rfl, rfl⟩
    · go_wp2_with fail
      go_ret
      exact ⟨rfl, rfl⟩

/-- Empty: no real point lies within. -/
theorem emp_some (ls : Bool) (lv : Int) (li hs : Bool) (hv : Int) (hi : Bool) : emp ls lv li hs hv hi = !some1 ls lv li hs hv hi := by
  unfold emp some1 wth loOk hiOk
  rcases Int.lt_trichotomy lv hv with h | h | h
  · have h1 : ¬ hv < lv := by omega
    have h2 : ¬ lv = hv := by omega
    cases ls <;> cases li <;> cases hs <;> cases hi <;> simp [h, h1, h2]
  · subst h
    cases ls <;> cases li <;> cases hs <;> cases hi <;> simp
  · have h1 : ¬ lv < hv := by omega
    have h2 : ¬ lv = hv := by omega
    cases ls <;> cases li <;> cases hs <;> cases hi <;> simp [h, h1, h2]
end Go.Proofs.Qxb6609436a
