/- The binary search: the closure, sort.Search, ranges.find. -/
import Derived.Test.Qxb6609343aWalkB
import Derived.Shelf.Abstract
namespace Go.Proofs.Qxb6609343a
open Go.RowKit Go.Proofs
set_option linter.unusedVariables false
set_option linter.unusedSimpArgs false

set_option maxHeartbeats 1000000 in
theorem closure_any (i n mb sb rb cb code hv : Nat) (w : World) (hi : i < n) (hr : w.cell? ⟨rb, 0, none⟩ = some (.pointer (some ⟨mb, 261, none⟩))) (hc : w.cell? ⟨cb, 0, none⟩ = some (.int .u32 code))
    (hs : w.cell? ⟨mb, 262, none⟩ = some (.slice (some ⟨sb, 0, none⟩) n n)) (hh : w.cell? ⟨sb, i * 3 + 1, none⟩ = some (.int .u32 hv)) :
    Calls Try.prog 25 (#[.int .i64 i] ++ #[.pointer (some ⟨rb, 0, none⟩), .pointer (some ⟨cb, 0, none⟩)]) w fun e w' => e = .returned (.bool (decide (code ≤ hv))) ∧ Ext w w' := by
  have hii : (i : Int) < n := by omega
  have e : decide (code ≤ hv) = decide ((code : Int) ≤ (hv : Int)) := by rw [Bool.eq_iff_iff]; simp
  rw [e]
  go_enter Try.func25, Try.ntmps25
  go_wp2
  go_quiet (fail)
  go_wp2
  go_ret
  exact ⟨by first | rfl | simp, (Ext.refl _).drewN _⟩

theorem enters25 : ∀ args w, (callFunc 25 args).run Try.prog w = .ok (.enter 25 args) w := Go.Proofs.enters_of Try.func25 (by kernel_rfl) rfl

set_option maxHeartbeats 1000000 in
/-- sort.Search, with a closure that only adds blocks. -/
theorem search_any (cb : Array Value) (n : Nat) (p : Nat → Bool) (w : World) (hn : n ≤ 32768)
    (hf : ∀ w1, Ext w w1 → ∀ i, i < n → Calls Try.prog 25 (#[.int .i64 i] ++ cb) w1 fun e w' => e = .returned (.bool (p i)) ∧ Ext w1 w')
    (hmono : ∀ a b, a ≤ b → b < n → p a = true → p b = true) :
    Calls Try.prog 24 #[.int .i64 n, .func (.func 25) #[] cb] w fun e w' => ∃ r : Nat, r ≤ n ∧ e = .returned (.int .i64 r) ∧ (∀ t, t < r → p t = false) ∧ (r < n → p r = true) ∧ Ext w w' := by
  have HF := hide hf
  have M := hide hmono
  have eg := enters25
  clear hf hmono
  go_enter Try.func24, Try.ntmps24
  go_wp2
  go_loopw [5, 6] (fun s5 s6 wr => ∃ (lo hi : Nat), s5 = .int .i64 lo ∧ s6 = .int .i64 hi ∧ lo ≤ hi ∧ hi ≤ n ∧ Hid (Ext w wr) ∧ Hid ((∀ t, t < lo → p t = false) ∧ (∀ t, hi ≤ t → t < n → p t = true))) (fun x y _ => (intOf y).toNat - (intOf x).toNat)
  case atStart => exact ⟨0, n, rfl, rfl, Nat.zero_le _, Nat.le_refl _, Ext.refl _, fun t ht => absurd ht (Nat.not_lt_zero _), fun t h1 h2 => by omega⟩
  case round =>
    obtain ⟨lo, hi, rfl, rfl, hlh, hin, HX, I⟩ := hrel
    by_cases hlt : lo < hi
    · have hc := HF.out _ HX.out ((lo + hi) / 2) (by omega)
      rw [show (((lo + hi) / 2 : Nat) : Int) = ((lo : Int) + (hi : Int)) / 2 by omega] at hc
      cases hp : p ((lo + hi) / 2) <;> rw [hp] at hc
      · have HP : Hid (p ((lo + hi) / 2) = false) := hp
        clear hp
        go_wp2_with (go_at_fn 25; refine hc.mono ?_; rintro e w' ⟨rfl, hx⟩)
        have HX2 := hide (HX.out.trans hx)
        go_roundw
        case rel =>
          have I2 : Hid ((∀ t, t < (lo + hi) / 2 + 1 → p t = false) ∧ (∀ t, hi ≤ t → t < n → p t = true)) := ⟨fun t ht => (by
            cases h : p t with
            | false => rfl
            | true => have := M.out t ((lo + hi) / 2) (by omega) (by omega) h; rw [HP.out] at this; cases this), I.out.2⟩
          exact ⟨(lo + hi) / 2 + 1, hi, by rw [show ((lo : Int) + (hi : Int)) / 2 + 1 = (((lo + hi) / 2 + 1 : Nat) : Int) by omega], rfl, by omega, hin, HX2, I2⟩
        case measure => (simp [intOf] <;> omega)
      · have HP : Hid (p ((lo + hi) / 2) = true) := hp
        clear hp
        go_wp2_with (go_at_fn 25; refine hc.mono ?_; rintro e w' ⟨rfl, hx⟩)
        have HX2 := hide (HX.out.trans hx)
        go_roundw
        case rel =>
          have I2 : Hid ((∀ t, t < lo → p t = false) ∧ (∀ t, (lo + hi) / 2 ≤ t → t < n → p t = true)) := ⟨I.out.1, fun t ht htn => M.out ((lo + hi) / 2) t ht htn HP.out⟩
          exact ⟨lo, (lo + hi) / 2, rfl, by rw [show ((lo : Int) + (hi : Int)) / 2 = (((lo + hi) / 2 : Nat) : Int) by omega], by omega, by omega, HX2, I2⟩
        case measure => (simp [intOf] <;> omega)
    · obtain rfl : hi = lo := by omega
      go_wp2
      go_ret
      exact ⟨hi, hin, rfl, I.out.1, fun h => I.out.2 hi (Nat.le_refl _) h, HX.out⟩
end Go.Proofs.Qxb6609343a
