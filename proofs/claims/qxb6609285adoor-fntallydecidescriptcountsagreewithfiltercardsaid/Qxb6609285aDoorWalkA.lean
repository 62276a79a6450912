import Derived.Test.Qxb6609285aDoorProg
import Derived.WalkKit
import Derived.WalkSpells
import Derived.WalkLawsBesides
import Derived.Deep.RegionHeld3
import Derived.Deep.AppendLies
import Derived.BigQuiet
import Derived.Deep.QuietTactic
import Derived.BigRegion
namespace Go.Proofs.Qxb6609285aDoor
open Go.RowKit Go.Proofs

/-- ZZnewTally: a block of 27 cells. -/
theorem newTally_any (f : Addr) (w : World) :
    Calls Tryd.prog 10 #[.pointer (some f)] w fun e w' => e = .returned (.pointer (some ⟨w.heap.size, 0, none⟩)) ∧ w' = w.alloc (.cells (#[.pointer (some f)] ++ Array.replicate 26 (.int .u64 0)) 76) := by
  go_enter Tryd.func10, Tryd.ntmps10
  go_wp2
  go_ret
  exact ⟨rfl, rfl⟩

theorem load_any (a : Addr) (c : Int) (w : World) (h : w.cell? a = some (.int .u64 c)) :
    Calls Tryd.prog 18 #[.pointer (some a)] w fun e w' => e = .returned (.int .u64 c) ∧ w' = w := by
  have hl := run_call_load (P := Tryd.prog) Tryd.func26 (by kernel_rfl) (by kernel_rfl) (by kernel_rfl) .u64 (by kernel_rfl) h
  go_enter Tryd.func18, Tryd.ntmps18
  go_wp2
  go_ret
  exact ⟨rfl, rfl⟩

theorem add_any (a : Addr) (c : Int) (w : World) (h : w.cell? a = some (.int .u64 c)) (hf : w.frozen? a = false) (h0 : 0 ≤ c) (h1 : c < 18446744073709551615) :
    Calls Tryd.prog 17 #[.pointer (some a), .int .u64 1] w fun e w' => e = .returned (.int .u64 (c + 1)) ∧ w' = w.setCell a (.int .u64 (c + 1)) := by
  have hs : (Op.intArith .add .u64 c 1).run Tryd.prog w = .ok (.int .u64 (c + 1)) w := by
    simp [go_sem, IntKind.wrap_u64]; omega
  have hl := run_call_add (P := Tryd.prog) Tryd.func25 (by kernel_rfl) (by kernel_rfl) (by kernel_rfl) .u64 (by kernel_rfl) h hf hs
  go_enter Tryd.func17, Tryd.ntmps17
  go_wp2
  go_ret
  exact ⟨rfl, rfl⟩

theorem count_any (tb : Nat) (d k : Nat) (c : Int) (w : World) (hd : d < 2) (hk : k ≤ 12) (h : w.cell? ⟨tb, 1 + d * 13 + k, none⟩ = some (.int .u64 c)) :
    Calls Tryd.prog 12 #[.pointer (some ⟨tb, 0, none⟩), .int .u8 d, .int .i64 k] w fun e w' => e = .returned (.int .u64 c) ∧ w' = w := by
  go_enter Tryd.func12, Tryd.ntmps12
  go_wp2_with (go_at_call 18; refine (load_any _ c _ h).mono ?_; rintro e w' ⟨rfl, rfl⟩)
  go_ret
  exact ⟨rfl, rfl⟩

theorem filter_any (tb : Nat) (v : Value) (w : World) (h : w.cell? ⟨tb, 0, none⟩ = some v) :
    Calls Tryd.prog 14 #[.pointer (some ⟨tb, 0, none⟩)] w fun e w' => e = .returned v ∧ w' = w := by
  go_enter Tryd.func14, Tryd.ntmps14
  go_wp2
  go_ret
  exact ⟨rfl, rfl⟩
end Go.Proofs.Qxb6609285aDoor
