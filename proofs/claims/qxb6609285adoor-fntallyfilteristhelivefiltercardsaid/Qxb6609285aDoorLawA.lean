import Derived.Test.Qxb6609285aDoorWalkF
import Derived.Test.Qxb6609285aDoorNet
namespace Go.Proofs.Qxb6609285aDoor
open Go.RowKit Go.Proofs
set_option linter.unusedVariables false
set_option linter.unusedSimpArgs false


theorem bump_lo (i j : Nat) : 0 ≤ bump (fun _ => 0) i j := by simp only [bump]; split <;> decide
theorem bump_hi (i j : Nat) : bump (fun _ => 0) i j < 18446744073709551615 := by simp only [bump]; split <;> decide
theorem bump2_lo (i k j : Nat) : 0 ≤ bump (bump (fun _ => 0) i) k j := by simp only [bump]; split <;> split <;> decide
theorem bump2_hi (i k j : Nat) : bump (bump (fun _ => 0) i) k j < 18446744073709551615 := by simp only [bump]; split <;> split <;> decide
theorem St.lt {w0 w : World} {c : Nat → Int} {v0 : Value} {ip : Bool} {x : Int} (h : St w0 w c v0 ip x) : w0.heap.size + 1 + 1 < w.heap.size := World.block_lt_of_cell? w _ (h.pk 0 _ rfl)
theorem one_ip (fwd : Bool) (src bits : Int) : ∀ u ∈ ruleIP fwd src bits, u.oneCell' = true := by simp [ruleIP, Value.oneCell']
end Go.Proofs.Qxb6609285aDoor
