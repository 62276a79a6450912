import Derived.Test.Qxb6609285aDoorProg
import Derived.WalkKit
import Derived.WalkSpells
import Derived.WalkLawsBesides
namespace Go.Proofs.Qxb6609285aDoor
open Go.RowKit Go.Proofs
set_option linter.unusedVariables false
set_option linter.unusedSimpArgs false

set_option maxHeartbeats 1000000 in
/-- zzRuleCount: a number that no length falls short of. -/
theorem ruleCount_any (a0 a1 a2 a3 a4 a5 : Option Addr) (l0 l1 l2 l3 l4 l5 c0 c1 c2 c3 c4 c5 : Nat) (w : World) :
    Calls Tryd.prog 7 #[.slice a0 l0 c0, .slice a1 l1 c1, .slice a2 l2 c2, .slice a3 l3 c3, .slice a4 l4 c4, .slice a5 l5 c5] w fun e w' =>
      ∃ n : Nat, e = .returned (.int .i64 n) ∧ w' = w ∧ n ≤ l0 ∧ n ≤ l1 ∧ n ≤ l2 ∧ n ≤ l3 ∧ n ≤ l4 ∧ n ≤ l5 := by
  go_enter Tryd.func7, Tryd.ntmps7
  go_wp2
  all_goals
    go_ret
    exact ⟨_, rfl, rfl, by omega, by omega, by omega, by omega, by omega, by omega⟩

set_option maxHeartbeats 1000000 in
/-- zzBytes of the first law: true only where the lengths are small. -/
theorem bytes2_any (rd d : Int) (a0 a1 a2 a3 a4 a5 a6 : Option Addr) (l0 l1 l2 l3 l4 l5 l6 c0 c1 c2 c3 c4 c5 c6 : Nat) (w : World) :
    Calls Tryd.prog 6 #[.int .u8 rd, .int .u8 d, .slice a0 l0 c0, .slice a1 l1 c1, .slice a2 l2 c2, .slice a3 l3 c3, .slice a4 l4 c4, .slice a5 l5 c5, .slice a6 l6 c6] w fun e w' =>
      ∃ b : Bool, e = .returned (.bool b) ∧ w' = w ∧ (b = true → l0 + l1 + l2 + l3 + l4 + l5 + l6 ≤ 1048576) := by
  go_enter Tryd.func6, Tryd.ntmps6
  go_wp2
  all_goals
    go_ret
    first
      | exact ⟨false, rfl, rfl, fun h => by cases h⟩
      | exact ⟨true, rfl, rfl, fun _ => by omega⟩

/-- The text of 12. -/
def s12 : ByteArray := ⟨#[49, 50]⟩
set_option maxRecDepth 100000 in
theorem small12 (w : World) : Calls Tryd.prog 32 #[.int .i64 12] w fun e w' => e = .returned (.string s12) ∧ w' = w := by
  go_enter Tryd.func32, Tryd.ntmps32
  go_wp2
  go_ret
  exact ⟨congrArg (fun b => Ending.returned (Value.string b)) (by decide +kernel), rfl⟩

theorem format12 (w : World) : Calls Tryd.prog 31 #[.int .i64 12, .int .i64 10] w fun e w' => e = .returned (.string s12) ∧ w' = w := by
  go_enter Tryd.func31, Tryd.ntmps31
  go_wp2_with (go_at_call 32; refine (small12 _).mono ?_; rintro e w' ⟨rfl, rfl⟩)
  go_ret
  exact ⟨rfl, rfl⟩
theorem itoaI12 (w : World) : Calls Tryd.prog 30 #[.int .i64 12] w fun e w' => e = .returned (.string s12) ∧ w' = w := by
  go_enter Tryd.func30, Tryd.ntmps30
  go_wp2_with (go_at_call 31; refine (format12 _).mono ?_; rintro e w' ⟨rfl, rfl⟩)
  go_ret
  exact ⟨rfl, rfl⟩
theorem itoa12 (w : World) : Calls Tryd.prog 23 #[.int .i64 12] w fun e w' => e = .returned (.string s12) ∧ w' = w := by
  go_enter Tryd.func23, Tryd.ntmps23
  go_wp2_with (go_at_call 30; refine (itoaI12 _).mono ?_; rintro e w' ⟨rfl, rfl⟩)
  go_ret
  exact ⟨rfl, rfl⟩
/-- The text of a direction. -/
def sDir (d : Int) : ByteArray := if d = 1 then ⟨#[111, 117, 116]⟩ else ⟨#[105, 110]⟩
theorem sDir_size (d : Int) : (sDir d).size ≤ 3 := by unfold sDir; split <;> decide
theorem dirString (d : Int) (w : World) : Calls Tryd.prog 24 #[.int .u8 d] w fun e w' => e = .returned (.string (sDir d)) ∧ w' = w := by
  by_cases h : d = 1
  · subst h
    go_enter Tryd.func24, Tryd.ntmps24
    go_wp2
    go_ret
    exact ⟨rfl, rfl⟩
  · have e : (d == 1) = false := by simpa using h
    have hs : sDir d = ⟨#[105, 110]⟩ := if_neg h
    rw [hs]
    go_enter Tryd.func24, Tryd.ntmps24
    go_wp2
    go_ret
    exact ⟨rfl, rfl⟩
end Go.Proofs.Qxb6609285aDoor
