/- Ground words, and the small helpers. -/
import Derived.Test.Qxb6609347aProg
import Derived.WalkKit
import Derived.WalkSpells
import Derived.WalkLawsBesides
import Derived.Deep.RegionHeld3
import Derived.BigQuiet
import Derived.Deep.QuietTactic
import Derived.BigRegion
import Derived.Deep.RegionWith
import Derived.Lib.QuietBelow
import Derived.Shelf.Bin.BEAppendUint64
import Derived.Shelf.Bin.BEUint64
import Derived.Lib.EndianMore
import Derived.Shelf.Lay
import Derived.Ground.MnProg
namespace Go.Proofs.Qxb6609347a
open Go.RowKit Go.Proofs Go.Shelf
set_option linter.unusedVariables false
set_option linter.unusedSimpArgs false

theorem hide {p : Prop} (h : p) : Hid p := h
def Ext (w w' : World) : Prop := Below w.heap.size w w'
theorem Ext.refl (w : World) : Ext w w := Below.refl _ _
theorem Ext.size {a b : World} (h : Ext a b) : a.heap.size ≤ b.heap.size := Below.size h
theorem Ext.trans {a b c : World} (h : Ext a b) (k : Ext b c) : Ext a c := Below.trans h (Below.mono k h.size)
theorem Ext.alloc {a b : World} (h : Ext a b) (o : Obj) : Ext a (b.alloc o) := Below.alloc h h.size o
theorem Ext.drew {a b : World} (h : Ext a b) : Ext a b.drew := Below.drew h
theorem Ext.drewN {a b : World} (h : Ext a b) (n : Nat) : Ext a (b.drewN n) := ⟨h.os, h.tape, h.output, h.size, h.block⟩
theorem Ext.setCell {a b : World} (h : Ext a b) {p : Addr} (hp : a.heap.size ≤ p.block) (u : Value) : Ext a (b.setCell p u) := Below.setCell h hp u
theorem Ext.cell {a b : World} (h : Ext a b) {p : Addr} {v : Value} (hc : a.cell? p = some v) : b.cell? p = some v :=
  (Below.cell h (World.block_lt_of_cell? a p hc)).trans hc
theorem Ext.frozen {a b : World} (h : Ext a b) {p : Addr} {v : Value} (hc : a.cell? p = some v) (hf : a.frozen? p = false) : b.frozen? p = false :=
  (Below.frozen h (World.block_lt_of_cell? a p hc)).trans hf
theorem Ext.new {a b : World} {o : Obj} (h : Ext (a.alloc o) b) : Ext a b := ((Ext.refl a).alloc o).trans h
theorem cell_same {w : World} {a : Addr} {v u : Value} (h : w.cell? a = some u) : (w.setCell a v).cell? a = some v := World.cell?_setCell_same _ _ _ h
theorem cell_other {w : World} {a b : Addr} {v : Value} (h : a ≠ b) : (w.setCell a v).cell? b = w.cell? b := by
  first | exact World.cell?_setCell_other w a b v h | exact World.cell?_setCell_other w a v b h | exact World.cell?_setCell_other _ _ _ h | exact World.cell?_setCell_other _ _ _ _ h

shelf_lay LaysBin.n44 Mn 44 at Try as Try.lays44
shelf_lay LaysBin.n42 Mn 42 at Try as Try.lays42

/-- A slice: its elements. -/
structure Slc (w : World) (a : Option Addr) (b o n : Nat) (f : Nat → Value) : Prop where
  ad : 0 < n → a = some ⟨b, o, none⟩
  cell : ∀ i, i < n → w.cell? ⟨b, o + i, none⟩ = some (f i)
theorem Slc.ext {w w' : World} {a : Option Addr} {b o n : Nat} {f : Nat → Value} (h : Slc w a b o n f) (k : Ext w w') : Slc w' a b o n f := ⟨h.ad, fun i hi => k.cell (h.cell i hi)⟩

theorem bytes_any (v : Int) (a : Option Addr) (n c : Nat) (w : World) :
    Calls Try.prog 4 #[.int .u64 v, .slice a n c] w fun e w' => ∃ b : Bool, e = .returned (.bool b) ∧ w' = w ∧ (b = true → n ≤ 1048576) := by
  go_enter Try.func4, Try.ntmps4
  go_wp2
  all_goals
    go_ret
    first
      | exact ⟨false, rfl, rfl, fun h => by cases h⟩
      | exact ⟨true, rfl, rfl, fun _ => by omega⟩

set_option maxHeartbeats 1000000 in
theorem same_any (n c c' b o b' o' : Nat) (a a' : Option Addr) (F : Nat → Int) (w : World) (hn : n ≤ 1048576) (s : Slc w a b o n (fun i => .int .u8 (F i))) (s' : Slc w a' b' o' n (fun i => .int .u8 (F i))) :
    Calls Try.prog 7 #[.slice a n c, .slice a' n c'] w fun e w' => e = .returned (.bool true) ∧ Ext w w' := by
  have S := hide s
  have S' := hide s'
  clear s s'
  have hnn : ((n : Int) != (n : Int)) = false := by rw [bne_self_eq_false]
  go_enter Try.func7, Try.ntmps7
  go_wp2_with fail
  go_loopw [5] (fun x wr => ∃ k : Nat, k ≤ n ∧ x = .int .i64 k ∧ Hid (Ext w wr)) (fun x _ => n - (intOf x).toNat)
  case atStart => exact ⟨0, by omega, rfl, Ext.refl _⟩
  case round =>
    obtain ⟨k, hk, rfl, HX⟩ := hrel
    by_cases hlt : k < n
    · have hlti : (k : Int) < n := by omega
      have had := S.out.ad (by omega)
      have had' := S'.out.ad (by omega)
      subst had had'
      have c0 : wr.cell? ⟨b, o + k, none⟩ = some (.int .u8 (F k)) := HX.out.cell (S.out.cell k hlt)
      have c1 : wr.cell? ⟨b', o' + k, none⟩ = some (.int .u8 (F k)) := HX.out.cell (S'.out.cell k hlt)
      generalize F k = f at *
      have hff : (f != f) = false := by rw [bne_self_eq_false]
      go_wp2_with fail
      go_quiet (fail)
      go_wp2_with fail
      go_roundw
      case rel => exact ⟨k + 1, by omega, by go_num, HX.out.drewN _⟩
      case measure => (simp [intOf] <;> omega)
    · go_wp2_with fail
      go_ret
      exact ⟨rfl, HX.out⟩
end Go.Proofs.Qxb6609347a
