/- Slices of mappings that came in, out of their readings. -/
import Derived.Test.Qxb6609343aBase
import Derived.Test.Qxb6609343aRows
import Derived.ProofKit
import Derived.OpenShut
import Derived.ChangeOld
import Derived.Below
import Derived.Deep.Slices
import Derived.Deep.SlicePairs
namespace Go.Proofs.Qxb6609343a
open Go.ChangeShapes Go.WideShapes Go.ChangeAt Go.RowKit Go.Deep
set_option linter.unusedVariables false

theorem own : ownKnob Try.prog.godebug = none := by kernel_rfl
theorem laidOut : laidOutB Try.prog = true := by kernel_rfl
theorem cells39 : Try.prog.cellsOf 39 = 3 := by kernel_rfl
theorem cells26 : Try.prog.cellsOf 26 = 1 := by kernel_rfl

section
variable {H : Type} {enc : TypeId × Value → H} {W : World}

theorem one_u32 {n : Nat} {v : Value} {x : DataW H × List MemPlace} (h : DataW.trod enc Try.prog W 0 (fun _ => true) true n 26 [v] = some x) : ∃ k : Nat, v = .int .u32 k ∧ k < 4294967296 := by
  obtain ⟨z, hz, _, hw⟩ := DataW.trod_int Try.underlying26 h
  obtain ⟨h0, h1⟩ := bounds_u32 hw
  obtain ⟨k, rfl⟩ := Int.eq_ofNat_of_zero_le h0
  exact ⟨k, by simpa using hz, by omega⟩

theorem open_ms {a : Option Addr} {len cap : Nat} {d : DataW H} {p : List MemPlace} (h : DataW.Trod enc Try.prog W 0 (fun _ => true) true 25 (.slice a len cap) d p) :
    ∃ (b o : Nat) (lo hi cid : Nat → Nat), Ms W a b o len lo hi cid ∧ (∀ i, lo i < 4294967296) ∧ (∀ i, hi i < 4294967296) ∧ ∀ i, cid i < 4294967296 := by
  obtain ⟨fuel, hf⟩ := h
  rcases open_slice Try.underlying25 hf with ⟨hcs, _⟩ | ⟨x, l, c, m, n, D, Pl, hcs, _, hl, hm, hmm, _, hx⟩
  · simp [Value.cells] at hcs
    obtain ⟨rfl, rfl, rfl⟩ := hcs
    have z : (0 : Nat) < 4294967296 := by decide
    exact ⟨0, 0, fun _ => 0, fun _ => 0, fun _ => 0, ⟨fun h => absurd h (by omega), fun i hi => absurd hi (by omega), fun i hi => absurd hi (by omega), fun i hi => absurd hi (by omega)⟩, fun _ => z, fun _ => z, fun _ => z⟩
  · simp [Value.cells] at hcs
    obtain ⟨rfl, rfl, rfl⟩ := hcs
    simp only [if_true] at hmm
    subst hmm
    have each : ∀ i, i < len → ∃ q : Nat × Nat × Nat, W.cell? (x.add (i * 3)) = some (.int .u32 q.1) ∧ W.cell? (x.add (i * 3 + 1)) = some (.int .u32 q.2.1) ∧ W.cell? (x.add (i * 3 + 2)) = some (.int .u32 q.2.2) ∧ q.1 < 4294967296 ∧ q.2.1 < 4294967296 ∧ q.2.2 < 4294967296 := by
      intro i hi
      obtain ⟨cs', h1, h2⟩ := hx i (by omega)
      rw [cells39] at h1
      obtain ⟨_, hlen, hcell⟩ := World.cells?_some h1
      obtain ⟨xs, k, hk, hxy, _, hxl, hf⟩ := DataW.trod_struct Try.underlying39 h2
      match xs, hxl, cs', hlen with
      | [y0, y1, y2], _, [v0, v1, v2], _ =>
        have g0 := hf 0 _ rfl
        have g1 := hf 1 _ rfl
        have g2 := hf 2 _ rfl
        simp [cells26] at g0 g1 g2
        obtain ⟨k0, rfl, l0⟩ := one_u32 g0
        obtain ⟨k1, rfl, l1⟩ := one_u32 g1
        obtain ⟨k2, rfl, l2⟩ := one_u32 g2
        have e0 := hcell 0 (by omega)
        have e1 := hcell 1 (by omega)
        have e2 := hcell 2 (by omega)
        rw [add_add] at e0 e1 e2
        exact ⟨(k0, k1, k2), by simpa using e0, by simpa using e1, by simpa using e2, l0, l1, l2⟩
    obtain ⟨q, hq⟩ := choose_lt each
    have spot : 0 < len → x = ⟨x.block, x.off, none⟩ := fun hn => by
      have := (hq 0 hn).1
      obtain ⟨b, off, sp⟩ := x
      have hspot : sp = none := by simpa [Addr.add] using World.cell?_spot this
      subst hspot; rfl
    refine ⟨x.block, x.off, fun i => if i < len then (q i).1 else 0, fun i => if i < len then (q i).2.1 else 0, fun i => if i < len then (q i).2.2 else 0, ⟨fun hn => congrArg some (spot hn), fun i hi => ?_, fun i hi => ?_, fun i hi => ?_⟩, fun i => ?_, fun i => ?_, fun i => ?_⟩
    · have := (hq i hi).1
      rw [spot (by omega), Go.WideShapes.add_plain] at this
      simp only [if_pos hi]; exact this
    · have := (hq i hi).2.1
      rw [spot (by omega), Go.WideShapes.add_plain, ← Nat.add_assoc] at this
      simp only [if_pos hi]; exact this
    · have := (hq i hi).2.2.1
      rw [spot (by omega), Go.WideShapes.add_plain, ← Nat.add_assoc] at this
      simp only [if_pos hi]; exact this
    · by_cases g : i < len
      · simp only [if_pos g]; exact (hq i g).2.2.2.1
      · simp only [if_neg g]; decide
    · by_cases g : i < len
      · simp only [if_pos g]; exact (hq i g).2.2.2.2.1
      · simp only [if_neg g]; decide
    · by_cases g : i < len
      · simp only [if_pos g]; exact (hq i g).2.2.2.2.2
      · simp only [if_neg g]; decide
end
end Go.Proofs.Qxb6609343a
