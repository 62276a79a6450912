/- Slices that came in, out of their readings: for the laws' walks. -/
import Derived.Test.Qxb6609285aDoorStart
import Derived.Test.Qxb6609285aDoorLaw2A
import Derived.ProofKit
import Derived.OpenShut
import Derived.ChangeOld
import Derived.Deep.Grids
namespace Go.Proofs.Qxb6609285aDoor
open Go.ChangeShapes Go.WideShapes Go.ChangeAt Go.RowKit Go.Deep
set_option linter.unusedVariables false

theorem slc_nil (w : World) (f : Nat → Value) : Slc w none 0 0 0 f := ⟨fun h => absurd h (by omega), fun i hi => absurd hi (by omega)⟩
theorem slc_some {w : World} {a : Addr} {n : Nat} {f : Nat → Value} (h : ∀ i, i < n → w.cell? (a.add i) = some (f i)) : ∃ b o, Slc w (some a) b o n f := by
  refine ⟨a.block, a.off, fun hn => ?_, fun i hi => ?_⟩
  · obtain ⟨b, off, spot⟩ := a
    have hspot : spot = none := by simpa [Addr.add] using World.cell?_spot (h 0 hn)
    subst hspot; rfl
  · have hn : 0 < n := by omega
    obtain ⟨b, off, spot⟩ := a
    have hspot : spot = none := by simpa [Addr.add] using World.cell?_spot (h 0 hn)
    subst hspot
    rw [← Go.WideShapes.add_plain]; exact h i hi

section
variable {H : Type} {enc : TypeId × Value → H} {W : World}

/-- A []byte. -/
theorem slc_bytes {a : Option Addr} {len cap : Nat} {d : DataW H} {p : List MemPlace} (h : DataW.Trod enc Tryd.prog W 0 (fun _ => true) true 22 (.slice a len cap) d p) :
    ∃ (b o : Nat) (F : Nat → Int), Slc W a b o len (fun i => .int .u8 (F i)) ∧ (∀ i, Byte (F i)) := by
  obtain ⟨fuel, hf⟩ := h
  rcases open_ints Tryd.underlying22 Tryd.underlying5 (by kernel_rfl) hf with ⟨hcs, _⟩ | ⟨x, l, c, zs, hcs, _, hl, hm, hz, _, hcell, hwz⟩
  · simp [Value.cells] at hcs
    obtain ⟨rfl, rfl, rfl⟩ := hcs
    exact ⟨0, 0, fun _ => 0, slc_nil W _, fun _ => (⟨by decide, by decide⟩ : Byte 0)⟩
  · simp [Value.cells] at hcs
    obtain ⟨rfl, rfl, rfl⟩ := hcs
    simp only [if_true] at hz
    obtain ⟨b, o, hs⟩ := slc_some (n := len) (f := fun i => .int .u8 (zs.getD i 0)) (fun i hi => hcell i (by omega))
    refine ⟨b, o, fun i => zs.getD i 0, hs, fun i => ?_⟩
    by_cases hi : i < zs.length
    · have := bounds_u8 (hwz zs[i] (List.getElem_mem hi))
      have e : zs.getD i 0 = zs[i] := by simp [hi]
      show Byte (zs.getD i 0)
      rw [e]
      exact ⟨this.1, by omega⟩
    · have e : zs.getD i 0 = 0 := by simp; rw [List.getElem?_eq_none (by omega)]; rfl
      show Byte (zs.getD i 0)
      rw [e]
      exact ⟨by decide, by decide⟩

/-- A []uint16. -/
theorem slc_u16 {a : Option Addr} {len cap : Nat} {d : DataW H} {p : List MemPlace} (h : DataW.Trod enc Tryd.prog W 0 (fun _ => true) true 23 (.slice a len cap) d p) :
    ∃ (b o : Nat) (F : Nat → Nat), Slc W a b o len (fun i => .int .u16 (F i)) ∧ (∀ i, F i < 65536) := by
  obtain ⟨fuel, hf⟩ := h
  rcases open_ints Tryd.underlying23 Tryd.underlying40 (by kernel_rfl) hf with ⟨hcs, _⟩ | ⟨x, l, c, zs, hcs, _, hl, hm, hz, _, hcell, hwz⟩
  · simp [Value.cells] at hcs
    obtain ⟨rfl, rfl, rfl⟩ := hcs
    exact ⟨0, 0, fun _ => 0, slc_nil W _, fun _ => (by decide : (0 : Nat) < 65536)⟩
  · simp [Value.cells] at hcs
    obtain ⟨rfl, rfl, rfl⟩ := hcs
    simp only [if_true] at hz
    have hb : ∀ i, 0 ≤ zs.getD i 0 ∧ zs.getD i 0 < 65536 := fun i => by
      by_cases hi : i < zs.length
      · have := bounds_u16 (hwz zs[i] (List.getElem_mem hi))
        have e : zs.getD i 0 = zs[i] := by simp [hi]
        rw [e]
        exact ⟨this.1, by omega⟩
      · have e : zs.getD i 0 = 0 := by simp; rw [List.getElem?_eq_none (by omega)]; rfl
        rw [e]
        exact ⟨by decide, by decide⟩
    obtain ⟨b, o, hs⟩ := slc_some (n := len) (f := fun i => .int .u16 ((zs.getD i 0).toNat : Nat)) (fun i hi => by
      rw [hcell i (by omega), Int.toNat_of_nonneg (hb i).1])
    exact ⟨b, o, fun i => (zs.getD i 0).toNat, hs, fun i => (by have := hb i; omega : (zs.getD i 0).toNat < 65536)⟩

/-- A []bool. -/
theorem slc_bools {a : Option Addr} {len cap : Nat} {d : DataW H} {p : List MemPlace} (h : DataW.Trod enc Tryd.prog W 0 (fun _ => true) true 24 (.slice a len cap) d p) :
    ∃ (b o : Nat) (F : Nat → Bool), Slc W a b o len (fun i => .bool (F i)) := by
  obtain ⟨fuel, hf⟩ := h
  rcases open_bools Tryd.underlying24 Tryd.underlying4 (by kernel_rfl) hf with ⟨hcs, _⟩ | ⟨x, l, c, B, hcs, _, hl, hm, _, hcell⟩
  · simp [Value.cells] at hcs
    obtain ⟨rfl, rfl, rfl⟩ := hcs
    exact ⟨0, 0, fun _ => false, slc_nil W _⟩
  · simp [Value.cells] at hcs
    obtain ⟨rfl, rfl, rfl⟩ := hcs
    obtain ⟨b, o, hs⟩ := slc_some (n := len) (f := fun i => .bool (B i)) (fun i hi => hcell i (by omega))
    exact ⟨b, o, B, hs⟩
end
end Go.Proofs.Qxb6609285aDoor
