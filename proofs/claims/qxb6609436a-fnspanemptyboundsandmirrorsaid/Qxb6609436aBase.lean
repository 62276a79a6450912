/- Ground words; the span's emptiness; the helpers. -/
import Derived.Test.Qxb6609436aProg
import Derived.WalkKit
import Derived.WalkSpells
import Derived.WalkLawsBesides
namespace Go.Proofs.Qxb6609436a
open Go.RowKit Go.Proofs
set_option linter.unusedVariables false
set_option linter.unusedSimpArgs false

theorem hide {p : Prop} (h : p) : Hid p := h
def Ext (w w' : World) : Prop := Below w.heap.size w w'
theorem Ext.refl (w : World) : Ext w w := Below.refl _ _
theorem Ext.size {a b : World} (h : Ext a b) : a.heap.size ≤ b.heap.size := Below.size h
theorem Ext.trans {a b c : World} (h : Ext a b) (k : Ext b c) : Ext a c := Below.trans h (Below.mono k h.size)
theorem Ext.alloc {a b : World} (h : Ext a b) (o : Obj) : Ext a (b.alloc o) := Below.alloc h h.size o

/-- Is the span empty? -/
def emp (ls : Bool) (lv : Int) (li hs : Bool) (hv : Int) (hi : Bool) : Bool := ls && hs && (decide (hv < lv) || (decide (lv = hv) && !(li && hi)))

theorem bytesA_any (ls : Bool) (lv : Int) (li hs : Bool) (hv : Int) (hi listed : Bool) (a : Option Addr) (n c : Nat) (v : Int) (w : World) :
    Calls Try.prog 8 #[.bool ls, .int .i64 lv, .bool li, .bool hs, .int .i64 hv, .bool hi, .bool listed, .slice a n c, .int .i64 v] w fun e w' => ∃ b : Bool, e = .returned (.bool b) ∧ w' = w := by
  go_enter Try.func8, Try.ntmps8
  go_wp2
  all_goals
    go_ret
    exact ⟨_, rfl, rfl⟩
theorem bytesB_any (ls : Bool) (lv : Int) (li hs : Bool) (hv : Int) (hi listed : Bool) (a : Option Addr) (n c : Nat) (w : World) :
    Calls Try.prog 5 #[.bool ls, .int .i64 lv, .bool li, .bool hs, .int .i64 hv, .bool hi, .bool listed, .slice a n c] w fun e w' => ∃ b : Bool, e = .returned (.bool b) ∧ w' = w := by
  go_enter Try.func5, Try.ntmps5
  go_wp2
  all_goals
    go_ret
    exact ⟨_, rfl, rfl⟩

set_option maxHeartbeats 1000000 in
theorem spanEmpty_any (ls : Bool) (lv : Int) (li hs : Bool) (hv : Int) (hi listed : Bool) (a : Option Addr) (n c : Nat) (w : World) :
    Calls Try.prog 10 #[.agg #[.bool ls, .int .i64 lv, .bool li, .bool hs, .int .i64 hv, .bool hi, .bool listed, .slice a n c]] w fun e w' => e = .returned (.bool (emp ls lv li hs hv hi)) ∧ Ext w w' := by
  rcases Int.lt_trichotomy hv lv with h | h | h
  · have h1 : ¬ lv = hv := by omega
    have h2 : (lv == hv) = false := by rw [beq_eq_false_iff_ne]; exact h1
    cases ls <;> cases hs <;> cases li <;> cases hi
    all_goals
      simp only [emp, h, h1, decide_true, decide_false, Bool.true_and, Bool.false_and, Bool.true_or, Bool.false_or, Bool.and_self, Bool.not_true, Bool.not_false, Bool.and_true, Bool.and_false]
      go_enter Try.func10, Try.ntmps10
      go_wp2
      go_ret
      exact ⟨rfl, (Ext.refl _).alloc _⟩
  · subst h
    have h1 : ¬ hv < hv := by omega
    cases ls <;> cases hs <;> cases li <;> cases hi
    all_goals
      simp only [emp, h1, decide_true, decide_false, Bool.true_and, Bool.false_and, Bool.true_or, Bool.false_or, Bool.and_self, Bool.not_true, Bool.not_false, Bool.and_true, Bool.and_false]
      go_enter Try.func10, Try.ntmps10
      go_wp2
      go_ret
      exact ⟨rfl, (Ext.refl _).alloc _⟩
  · have h1 : ¬ hv < lv := by omega
    have h3 : ¬ lv = hv := by omega
    have h2 : (lv == hv) = false := by rw [beq_eq_false_iff_ne]; exact h3
    cases ls <;> cases hs <;> cases li <;> cases hi
    all_goals
      simp only [emp, h1, h3, decide_true, decide_false, Bool.true_and, Bool.false_and, Bool.true_or, Bool.false_or, Bool.and_self, Bool.not_true, Bool.not_false, Bool.and_true, Bool.and_false]
      go_enter Try.func10, Try.ntmps10
      go_wp2
      go_ret
      exact ⟨rfl, (Ext.refl _).alloc _⟩

set_option maxHeartbeats 1000000 in
theorem empty_any (ls : Bool) (lv : Int) (li hs : Bool) (hv : Int) (hi listed : Bool) (a : Option Addr) (n c : Nat) (w : World) :
    Calls Try.prog 6 #[.bool ls, .int .i64 lv, .bool li, .bool hs, .int .i64 hv, .bool hi, .bool listed, .slice a n c] w fun e w' => e = .returned (.bool (emp ls lv li hs hv hi)) ∧ Ext w w' := by
  have H := hide (spanEmpty_any ls lv li hs hv hi listed a n c w)
  generalize emp ls lv li hs hv hi = r at *
  go_enter Try.func6, Try.ntmps6
  go_wp2_with fail
  refine H.out.mono ?_
  rintro e w1 ⟨rfl, hx⟩
  have HX := hide hx
  clear hx H
  go_wp2_with fail
  go_ret
  exact ⟨rfl, HX.out⟩
end Go.Proofs.Qxb6609436a
