/- Ground words for the walks: hidden facts, worlds that only grew, slices of mappings that came in. -/
import Derived.Test.Qxb6609343aProg
import Derived.WalkKit
import Derived.WalkSpells
import Derived.WalkLawsBesides
import Derived.Deep.RegionHeld3
import Derived.BigQuiet
import Derived.Deep.QuietTactic
import Derived.BigRegion
import Derived.Lib.QuietBelow
namespace Go.Proofs.Qxb6609343a
open Go.RowKit Go.Proofs
set_option linter.unusedVariables false
set_option linter.unusedSimpArgs false

theorem hide {p : Prop} (h : p) : Hid p := h

/-- w' is w with blocks added: nothing that was there has turned. -/
def Ext (w w' : World) : Prop := Below w.heap.size w w'
theorem Ext.refl (w : World) : Ext w w := Below.refl _ _
theorem Ext.size {a b : World} (h : Ext a b) : a.heap.size ≤ b.heap.size := Below.size h
theorem Ext.trans {a b c : World} (h : Ext a b) (k : Ext b c) : Ext a c := Below.trans h (Below.mono k h.size)
theorem Ext.alloc {a b : World} (h : Ext a b) (o : Obj) : Ext a (b.alloc o) := Below.alloc h h.size o
theorem Ext.drew {a b : World} (h : Ext a b) : Ext a b.drew := Below.drew h
theorem Ext.drewN {a b : World} (h : Ext a b) (n : Nat) : Ext a (b.drewN n) := ⟨h.os, h.tape, h.output, h.size, h.block⟩
theorem Ext.setCell {a b : World} (h : Ext a b) {p : Addr} (hp : a.heap.size ≤ p.block) (u : Value) : Ext a (b.setCell p u) := Below.setCell h hp u
theorem Ext.cell {a b : World} (h : Ext a b) {p : Addr} {v : Value} (hc : a.cell? p = some v) : b.cell? p = some v :=
  (Below.cell h (World.block_lt_of_cell? a p hc)).trans hc
theorem Ext.frozen {a b : World} (h : Ext a b) {p : Addr} {v : Value} (hc : a.cell? p = some v) (hf : a.frozen? p = false) : b.frozen? p = false :=
  (Below.frozen h (World.block_lt_of_cell? a p hc)).trans hf
theorem Ext.new {a b : World} {o : Obj} (h : Ext (a.alloc o) b) : Ext a b := ((Ext.refl a).alloc o).trans h
theorem cell_same {w : World} {a : Addr} {v u : Value} (h : w.cell? a = some u) : (w.setCell a v).cell? a = some v := World.cell?_setCell_same _ _ _ h
theorem cell_other {w : World} {a b : Addr} {v : Value} (h : a ≠ b) : (w.setCell a v).cell? b = w.cell? b := by
  first | exact World.cell?_setCell_other w a b v h | exact World.cell?_setCell_other w a v b h | exact World.cell?_setCell_other _ _ _ h | exact World.cell?_setCell_other _ _ _ _ h

/-- A slice of mappings that came in: three cells each. -/
structure Ms (w : World) (a : Option Addr) (b o n : Nat) (lo hi cid : Nat → Nat) : Prop where
  ad : 0 < n → a = some ⟨b, o, none⟩
  lo : ∀ i, i < n → w.cell? ⟨b, o + i * 3, none⟩ = some (.int .u32 (lo i))
  hi : ∀ i, i < n → w.cell? ⟨b, o + i * 3 + 1, none⟩ = some (.int .u32 (hi i))
  cid : ∀ i, i < n → w.cell? ⟨b, o + i * 3 + 2, none⟩ = some (.int .u32 (cid i))
theorem Ms.ext {w w' : World} {a : Option Addr} {b o n : Nat} {lo hi cid : Nat → Nat} (h : Ms w a b o n lo hi cid) (k : Ext w w') : Ms w' a b o n lo hi cid :=
  ⟨h.ad, fun i hi => k.cell (h.lo i hi), fun i hi => k.cell (h.hi i hi), fun i hi => k.cell (h.cid i hi)⟩

/-- The ranges are in order and disjoint. -/
def Ord (n : Nat) (lo hi : Nat → Nat) : Prop := ∀ i, i < n → lo i ≤ hi i ∧ (0 < i → hi (i - 1) < lo i)

theorem bytesA_any (n m c d : Nat) (a b : Option Addr) (h : Bool) (x : Int) (w : World) :
    Calls Try.prog 8 #[.slice a n c, .slice b m d, .bool h, .int .u32 x] w fun e w' => ∃ bb : Bool, e = .returned (.bool bb) ∧ w' = w := by
  go_enter Try.func8, Try.ntmps8
  go_wp2
  all_goals
    go_ret
    exact ⟨_, rfl, rfl⟩
theorem bytesB_any (n m c d : Nat) (a b : Option Addr) (x : Int) (w : World) :
    Calls Try.prog 14 #[.slice a n c, .slice b m d, .int .u32 x] w fun e w' => ∃ bb : Bool, e = .returned (.bool bb) ∧ w' = w := by
  go_enter Try.func14, Try.ntmps14
  go_wp2
  all_goals
    go_ret
    exact ⟨_, rfl, rfl⟩

set_option maxHeartbeats 1000000 in
theorem ordered_any (n cap b o : Nat) (a : Option Addr) (lo hi cid : Nat → Nat) (w : World) (hn : n ≤ 32768) (s : Ms w a b o n lo hi cid) :
    Calls Try.prog 9 #[.slice a n cap] w fun e w' => ∃ bb : Bool, e = .returned (.bool bb) ∧ Ext w w' ∧ (bb = true → Ord n lo hi) := by
  have S := hide s
  clear s
  go_enter Try.func9, Try.ntmps9
  go_wp2_with fail
  go_loopw [3] (fun x wr => ∃ k : Nat, k ≤ n ∧ x = .int .i64 k ∧ Hid (Ext w wr) ∧ Hid (Ord k lo hi)) (fun x _ => n - (intOf x).toNat)
  case atStart => exact ⟨0, by omega, rfl, Ext.refl _, fun i hi => absurd hi (by omega)⟩
  case round =>
    obtain ⟨k, hk, rfl, HX, HO⟩ := hrel
    by_cases hlt : k < n
    · have hlti : (k : Int) < n := by omega
      have had := S.out.ad (by omega)
      subst had
      have c0 := HX.out.cell (S.out.lo k hlt)
      have c1 := HX.out.cell (S.out.hi k hlt)
      by_cases h1 : lo k ≤ hi k
      · by_cases h0 : 0 < k
        · have h0i : (0 : Int) < (k : Int) := by omega
          obtain ⟨p, rfl⟩ : ∃ p, k = p + 1 := ⟨k - 1, by omega⟩
          have c2 := HX.out.cell (S.out.hi p (by omega))
          have hpi : (p : Int) < n := by omega
          by_cases h2 : hi p < lo (p + 1)
          · have HN : Hid (Ord (p + 1 + 1) lo hi) := fun i hi' => by
              by_cases e : i = p + 1
              · subst e; exact ⟨h1, fun _ => h2⟩
              · exact HO.out i (by omega)
            generalize hi p = hpv at *
            generalize lo (p + 1) = lk at *
            generalize hi (p + 1) = hk' at *
            have h1i : ¬ (hk' : Int) < (lk : Int) := by omega
            have h2i : ¬ (lk : Int) ≤ (hpv : Int) := by omega
            go_wp2_with fail
            go_quiet (fail)
            go_wp2_with fail
            go_quiet (fail)
            go_wp2_with fail
            go_roundw
            case rel => exact ⟨p + 1 + 1, by omega, by go_num, HX.out.drewN _, HN⟩
            case measure => (simp [intOf] <;> omega)
          · generalize hi p = hpv at *
            generalize lo (p + 1) = lk at *
            generalize hi (p + 1) = hk' at *
            have h1i : ¬ (hk' : Int) < (lk : Int) := by omega
            have h2i : (lk : Int) ≤ (hpv : Int) := by omega
            go_wp2_with fail
            go_quiet (fail)
            go_wp2_with fail
            go_quiet (fail)
            go_wp2_with fail
            go_ret
            exact ⟨false, rfl, (HX.out.drewN _).drewN _, fun h => by cases h⟩
        · have h0i : ¬ (0 : Int) < (k : Int) := by omega
          have HN : Hid (Ord (k + 1) lo hi) := fun i hi' => by
            obtain rfl : i = k := by omega
            exact ⟨h1, fun h => absurd h h0⟩
          generalize lo k = lk at *
          generalize hi k = hk' at *
          have h1i : ¬ (hk' : Int) < (lk : Int) := by omega
          go_wp2_with fail
          go_quiet (fail)
          go_wp2_with fail
          go_quiet (fail)
          go_wp2_with fail
          go_roundw
          case rel => exact ⟨k + 1, by omega, by go_num, HX.out.drewN _, HN⟩
          case measure => (simp [intOf] <;> omega)
      · generalize lo k = lk at *
        generalize hi k = hk' at *
        have h1i : (hk' : Int) < (lk : Int) := by omega
        go_wp2_with fail
        go_quiet (fail)
        go_wp2_with fail
        go_ret
        exact ⟨false, rfl, HX.out.drewN _, fun h => by cases h⟩
    · go_wp2_with fail
      go_ret
      exact ⟨true, rfl, HX.out, fun _ => by obtain rfl : k = n := by omega
                                            exact HO.out⟩
end Go.Proofs.Qxb6609343a
