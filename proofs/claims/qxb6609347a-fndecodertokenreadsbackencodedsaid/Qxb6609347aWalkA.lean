/- The encoder: AppendUint64 onto nothing. -/
import Derived.Test.Qxb6609347aBase
namespace Go.Proofs.Qxb6609347a
open Go.RowKit Go.Proofs Go.Shelf
set_option linter.unusedVariables false
set_option linter.unusedSimpArgs false

/-- Eight bytes, as they lie. -/
def Enc (w : World) (g v : Nat) : Prop := ∀ i u, (Lib.byteCells (Lib.beBytes 8 v))[i]? = some u → w.cell? ⟨g, i, none⟩ = some u
theorem Enc.ext {w w' : World} {g v : Nat} (h : Enc w g v) (k : Ext w w') : Enc w' g v := fun i u hu => k.cell (h i u hu)

theorem append_any (v : Nat) (hv : v < 18446744073709551616) (w : World) :
    Calls Try.prog 11 #[.agg #[], .slice none 0 0, .int .u64 v] w fun e w' => ∃ g cap, e = .returned (.slice (some ⟨g, 0, none⟩) 8 cap) ∧ w.heap.size ≤ g ∧ 8 ≤ cap ∧ Enc w' g v ∧ Ext w w' := by
  have h := Any.binary_BE_AppendUint64 Try.lays44 w.heap.size 0 v hv (.slice none 0 0) [] w (World.ownsRow_nil _ _ _ _) (Nat.le_refl _) (by decide)
  change Calls Try.prog 11 _ _ _ at h
  refine h.mono ?_
  rintro e w' ⟨v', rfl, how, hx⟩
  rcases how.2 with ⟨_, h0⟩ | ⟨g, cp, cur, rfl, hbg, hg, hrest⟩
  · omega
  · have hc := how.cells (g := g) rfl
    refine ⟨g, cp, rfl, hbg, ?_, fun i u hu => ?_, hx⟩
    · have := hrest.1; omega
    · have h2 := hc i u hu
      have hadd : (⟨g, 0, none⟩ : Addr).add i = ⟨g, i, none⟩ := by unfold Addr.add; split <;> simp_all
      rw [hadd] at h2
      exact h2

set_option maxHeartbeats 1000000 in
theorem euint_any (eb v : Nat) (hv : v < 18446744073709551616) (w : World) (hc : w.cell? ⟨eb, 0, none⟩ = some (.slice none 0 0)) (hf : w.frozen? ⟨eb, 0, none⟩ = false) :
    Calls Try.prog 8 #[.pointer (some ⟨eb, 0, none⟩), .int .u64 v] w fun e w' => ∃ g cap w1, e = .returned (.tuple #[]) ∧ w.heap.size ≤ g ∧ Enc w1 g v ∧ Ext w w1 ∧ w' = (w1.setCell ⟨eb, 0, none⟩ (.slice (some ⟨g, 0, none⟩) 8 cap)) := by
  have hlt := World.block_lt_of_cell? _ _ hc
  go_enter Try.func8, Try.ntmps8
  go_wp2_with fail
  go_region_with (go_at_call 11; refine (append_any v hv _).mono ?_; rintro e w1 ⟨g, cap, rfl, hg, hcap, hE, hx⟩; have k0 := hx.cell hc; have kf := hx.frozen hc hf; have HE := hide hE; have HX := hide hx; have HG := hide hg; clear hE hx hg)
  all_goals go_wp2
  all_goals go_end0
  all_goals exact ⟨g, cap, w1, rfl, HG.out, HE.out, ((Ext.refl w).drew).trans HX.out, rfl⟩

set_option maxHeartbeats 1000000 in
/-- ZZencodeUint64: the eight bytes, the greatest first. -/
theorem encode_any (v : Nat) (hv : v < 18446744073709551616) (w : World) :
    Calls Try.prog 5 #[.int .u64 v] w fun e w' => ∃ g cap, e = .returned (.slice (some ⟨g, 0, none⟩) 8 cap) ∧ w.heap.size ≤ g ∧ Enc w' g v ∧ Ext w w' := by
  go_enter Try.func5, Try.ntmps5
  go_wp2_with fail
  refine (euint_any w.heap.size v hv _ (by simp [go_sem]) (by simp [go_sem])).mono ?_
  rintro e w2 ⟨g, cap, w1, rfl, hg, hE, hx, rfl⟩
  have hg' : w.heap.size + 1 ≤ g := by simpa using hg
  have hne : ¬ w.heap.size = g := by omega
  have k0 : (w1.setCell ⟨w.heap.size, 0, none⟩ (.slice (some ⟨g, 0, none⟩) 8 cap)).cell? ⟨w.heap.size, 0, none⟩ = some (.slice (some ⟨g, 0, none⟩) 8 cap) := cell_same (hx.cell (v := .slice none 0 0) (by simp [go_sem]))
  have HE : Hid (Enc (w1.setCell ⟨w.heap.size, 0, none⟩ (.slice (some ⟨g, 0, none⟩) 8 cap)) g v) := fun i u hu => by
    rw [cell_other (a := ⟨w.heap.size, 0, none⟩) (b := ⟨g, i, none⟩) (by intro q; injection q with q1 _ _; exact hne q1)]
    exact hE i u hu
  have HX := hide (hx.new.setCell (p := ⟨w.heap.size, 0, none⟩) (Nat.le_refl _) (.slice (some ⟨g, 0, none⟩) 8 cap))
  clear hE hx hg
  generalize w1.setCell ⟨w.heap.size, 0, none⟩ (.slice (some ⟨g, 0, none⟩) 8 cap) = w3 at *
  go_wp2_with fail
  go_ret
  exact ⟨g, cap, rfl, by omega, HE.out, HX.out⟩
end Go.Proofs.Qxb6609347a
