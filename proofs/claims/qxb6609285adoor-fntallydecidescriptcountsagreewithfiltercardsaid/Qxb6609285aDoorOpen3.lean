/- The frames that came in, out of their reading. -/
import Derived.Test.Qxb6609285aDoorOpen
import Derived.Test.Qxb6609285aDoorLaw3A
import Derived.Deep.Matrix
namespace Go.Proofs.Qxb6609285aDoor
open Go.ChangeShapes Go.WideShapes Go.ChangeAt Go.RowKit Go.Deep
set_option linter.unusedVariables false
section
variable {H : Type} {enc : TypeId × Value → H} {W : World}

theorem getD_byte {zs : List Int} (h : ∀ n ∈ zs, (Lit.int .u8 n).wf = true) (i : Nat) : Byte (zs.getD i 0) := by
  by_cases hi : i < zs.length
  · have := bounds_u8 (h zs[i] (List.getElem_mem hi))
    have e : zs.getD i 0 = zs[i] := by simp [hi]
    rw [e]
    exact ⟨this.1, by omega⟩
  · have e : zs.getD i 0 = 0 := by simp; rw [List.getElem?_eq_none (by omega)]; rfl
    rw [e]
    exact ⟨by decide, by decide⟩

/-- A [][]byte. -/
theorem open_frames {a : Option Addr} {len cap : Nat} {d : DataW H} {p : List MemPlace} (h : DataW.Trod enc Tryd.prog W 0 (fun _ => true) true 45 (.slice a len cap) d p) :
    ∃ (b o : Nat) (fa : Nat → Option Addr) (fb fo fn fk : Nat → Nat) (F : Nat → Nat → Int), Frames W a b o len fa fb fo fn fk F ∧ ∀ j i, Byte (F j i) := by
  obtain ⟨fuel, hf⟩ := h
  rcases open_int_rows Tryd.underlying45 Tryd.underlying22 Tryd.underlying5 (by kernel_rfl) (by kernel_rfl) hf with ⟨hcs, _⟩ | ⟨x, l, c, A, L, C, Z, hcs, _, hl, hm, _, hr⟩
  · simp [Value.cells] at hcs
    obtain ⟨rfl, rfl, rfl⟩ := hcs
    exact ⟨0, 0, fun _ => none, fun _ => 0, fun _ => 0, fun _ => 0, fun _ => 0, fun _ _ => 0, ⟨slc_nil W _, fun i hi => absurd hi (by omega)⟩, fun _ _ => (⟨by decide, by decide⟩ : Byte 0)⟩
  · simp [Value.cells] at hcs
    obtain ⟨rfl, rfl, rfl⟩ := hcs
    obtain ⟨b, o, hs⟩ := slc_some (n := len) (f := fun i => .slice (A i) (L i) (C i)) (fun i hi => (hr i (by omega)).1)
    obtain ⟨B, hB⟩ := choose_lt (α := Nat × Nat) (p := fun r q => Slc W (A r) q.1 q.2 (L r) (fun j => .int .u8 (if r < len then (Z r).getD j 0 else 0))) (n := len) (fun r hlt => by
      obtain ⟨_, h2, _, _, _, h6, h7⟩ := hr r (by omega)
      cases hA : A r with
      | none => 
        have := h6 hA
        refine ⟨(0, 0), ?_⟩
        rw [show L r = 0 by omega]
        exact slc_nil W _
      | some a' =>
        obtain ⟨b', o', hs'⟩ := slc_some (w := W) (a := a') (n := L r) (f := fun j => .int .u8 (if r < len then (Z r).getD j 0 else 0)) (fun i hi => by
          rw [if_pos hlt]; exact (h7 a' hA).2 i (by omega))
        exact ⟨(b', o'), hs'⟩)
    refine ⟨b, o, A, fun r => (B r).1, fun r => (B r).2, L, C, fun r j => if r < len then (Z r).getD j 0 else 0, ⟨hs, fun i hi => hB i hi⟩, fun j i => ?_⟩
    by_cases hj : j < len
    · simp only [if_pos hj]; exact getD_byte (hr j (by omega)).2.2.2.2.1 i
    · simp only [if_neg hj]; exact ⟨by decide, by decide⟩
end
end Go.Proofs.Qxb6609285aDoor
