import Derived.Test.Qxb6609285aDoorWalkH
import Derived.Test.Qxb6609285aDoorWalkG
import Derived.Test.Qxb6609285aDoorWalkE
import Derived.Lib.QuietBelow
namespace Go.Proofs.Qxb6609285aDoor
open Go.RowKit Go.Proofs
set_option linter.unusedVariables false
set_option linter.unusedSimpArgs false

/-- The model where the direction has no rules. -/
theorem model_zero (rd d n fl l1 l2 l3 l4 l5 l6 k0 k1 k2 k3 k4 k5 k6 : Nat) (a0 a1 a2 a3 a4 a5 a6 : Option Addr) (w : World) (h : d ≠ rd ∨ 1 < rd ∨ n = 0) :
    Calls Tryd.prog 9 #[.int .u8 rd, .int .u8 d, .slice a0 fl k0, .slice a1 l1 k1, .slice a2 l2 k2, .slice a3 l3 k3, .slice a4 l4 k4, .slice a5 l5 k5, .slice a6 l6 k6, .int .i64 n] w fun e w' =>
      e = .returned (.tuple #[.bool true, .int .i64 0]) ∧ w' = w := by
  by_cases hne : d = rd
  · subst hne
    by_cases hr : 1 < d
    · have hri : (1 : Int) < (d : Int) := by omega
      go_enter Tryd.func9, Tryd.ntmps9
      go_wp2
      go_ret2
      exact ⟨rfl, rfl⟩
    · obtain rfl : n = 0 := by omega
      have hri : ¬ (1 : Int) < (d : Int) := by omega
      go_enter Tryd.func9, Tryd.ntmps9
      go_wp2
      go_ret2
      exact ⟨rfl, rfl⟩
  · have e1 : ((d : Int) == (rd : Int)) = false := by rw [beq_eq_false_iff_ne]; omega
    have e2 : ((d : Int) != (rd : Int)) = true := by rw [bne_iff_ne]; omega
    go_enter Tryd.func9, Tryd.ntmps9
    go_wp2
    all_goals
      go_ret2
      exact ⟨rfl, rfl⟩

/-- A generic rule's cells. -/
def ruleG (d : Nat) (fwd : Bool) (off : Nat) (mb vb : Nat) (neq more : Bool) : List Value := [.int .u8 d, .bool fwd, .bool true, .int .u32 0, .int .u8 0, .int .u32 0, .int .u8 0, .int .u8 0, .int .u8 0, .int .u16 0, .int .u8 0, .int .u16 0, .bool false, .int .u16 off, .slice (some ⟨mb, 0, none⟩) 1 1, .slice (some ⟨vb, 0, none⟩) 1 1, .bool neq, .bool more]

set_option maxRecDepth 100000 in
set_option maxHeartbeats 1000000 in
/-- Check of a generic rule of direction in or out. -/
theorem checkG_good (rb o d : Nat) (fwd neq more : Bool) (off mb vb : Nat) (w : World) (hd : d < 2) (hr : CellsAt w rb o (ruleG d fwd off mb vb neq more)) :
    Calls Tryd.prog 21 #[.pointer (some ⟨rb, o, none⟩)] w fun e w' => e = .returned .nilIface ∧ Ext w w' := by
  have r0 := hr 0 _ rfl
  have r2 := hr 2 _ rfl
  have r14 := hr 14 _ rfl
  have r15 := hr 15 _ rfl
  rw [Nat.add_zero] at r0
  clear hr
  rcases (show d = 0 ∨ d = 1 by omega) with rfl | rfl
  all_goals
    go_enter Tryd.func21, Tryd.ntmps21
    go_wp2
    go_quiet (fail)
    go_wp2
    go_ret
    exact ⟨rfl, (Ext.refl w).drewN _⟩

set_option maxHeartbeats 1000000 in
/-- Check of a rule of no direction. -/
theorem checkG_bad (rb o d : Nat) (fwd neq more : Bool) (off mb vb : Nat) (w : World) (hd : 2 ≤ d) (hr : CellsAt w rb o (ruleG d fwd off mb vb neq more)) :
    Calls Tryd.prog 21 #[.pointer (some ⟨rb, o, none⟩)] w fun e w' => (∃ p, e = .returned (.iface 93 (.pointer (some p)))) ∧ Ext w w' := by
  have r0 := hr 0 _ rfl
  rw [Nat.add_zero] at r0
  clear hr
  have e0 : ((d : Int) != 0) = true := by rw [bne_iff_ne]; omega
  have e1 : ((d : Int) != 1) = true := by rw [bne_iff_ne]; omega
  go_enter Tryd.func21, Tryd.ntmps21
  go_wp2_with (go_at_call 22; refine (new_any _ _).mono ?_; rintro e w' ⟨rfl, hx⟩)
  go_ret
  exact ⟨⟨_, rfl⟩, hx⟩

/-- Add onto a full direction: refused. -/
def moreThan : ByteArray := ⟨#[109, 111, 114, 101, 32, 116, 104, 97, 110, 32]⟩

set_option maxRecDepth 100000 in
set_option maxHeartbeats 1000000 in
theorem add_full (fb d cap : Nat) (sa : Option Addr) (c1 c2 c3 c4 c5 c6 c7 c8 c9 c10 c11 c12 c13 c14 c15 c16 c17 : Value) (w : World) (hd : d < 2)
    (hf : w.cell? ⟨fb, d, none⟩ = some (.slice sa 12 cap))
    (hck : Hid (∀ rb w1, CellsAt w1 rb 0 [.int .u8 (d : Nat), c1, c2, c3, c4, c5, c6, c7, c8, c9, c10, c11, c12, c13, c14, c15, c16, c17] → Calls Tryd.prog 21 #[.pointer (some ⟨rb, 0, none⟩)] w1 fun e w' => e = .returned .nilIface ∧ Ext w1 w')) :
    Calls Tryd.prog 16 #[.pointer (some ⟨fb, 0, none⟩), .agg #[.int .u8 (d : Nat), c1, c2, c3, c4, c5, c6, c7, c8, c9, c10, c11, c12, c13, c14, c15, c16, c17]] w fun e w' => (∃ p, e = .returned (.iface 93 (.pointer (some p)))) ∧ Ext w w' := by
  go_enter Tryd.func16, Tryd.ntmps16
  go_wp2_with (go_at_call 21; refine (hck.out _ _ (cells_new w _ [.int .u8 (d : Nat), c1, c2, c3, c4, c5, c6, c7, c8, c9, c10, c11, c12, c13, c14, c15, c16, c17] 63 (Ext.refl _))).mono ?_; rintro e w1 ⟨rfl, hx⟩)
  have hf1 := hx.new.cell hf
  have r0 := cells_new w w1 [.int .u8 (d : Nat), c1, c2, c3, c4, c5, c6, c7, c8, c9, c10, c11, c12, c13, c14, c15, c16, c17] 63 hx 0 _ rfl
  rw [Nat.add_zero] at r0
  have hdi : (d : Int) < 2 := by omega
  have HX := hide hx.new
  clear hx hck
  go_quiet (fail)
  go_wp2
  replace r0 : (w1.drewN nq).cell? _ = _ := r0
  replace HX : Hid (Ext w (w1.drewN nq)) := HX.out.drewN nq
  clear hf1
  generalize w1.drewN nq = w2 at *
  have hsd := sDir_size (d : Int)
  have n1 : s12.size = 2 := rfl
  go_region_with (first | (go_at_call 23; refine (itoa12 _).mono ?_; rintro e w' ⟨rfl, rfl⟩) | (go_at_call 24; refine (dirString _ _).mono ?_; rintro e w' ⟨rfl, rfl⟩) | (go_at_call 22; refine (new_any _ _).mono ?_; rintro e w' ⟨rfl, hx3⟩))
  all_goals go_wp2
  all_goals go_ret
  all_goals exact ⟨⟨_, rfl⟩, HX.out.drew.trans hx3⟩
end Go.Proofs.Qxb6609285aDoor
