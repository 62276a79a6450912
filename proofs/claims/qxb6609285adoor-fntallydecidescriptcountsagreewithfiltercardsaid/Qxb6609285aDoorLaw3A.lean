/- For the third law: the counters' sum, the law's own table of counters, the bound on the lengths. -/
import Derived.Test.Qxb6609285aDoorLaw2B
namespace Go.Proofs.Qxb6609285aDoor
open Go.RowKit Go.Proofs
set_option linter.unusedVariables false
set_option linter.unusedSimpArgs false

/-- The sum of the first m counters. -/
def tot (c : Nat → Int) : Nat → Int
  | 0 => 0
  | m + 1 => tot c m + c m
theorem tot_zero (m : Nat) : tot (fun _ => 0) m = 0 := by
  induction m with
  | zero => rfl
  | succ m ih => simp [tot, ih]
theorem tot_bump_out (c : Nat → Int) (i : Nat) : ∀ m, m ≤ i → tot (bump c i) m = tot c m
  | 0, _ => rfl
  | m + 1, h => by
    have e : bump c i m = c m := by unfold bump; rw [if_neg (by omega)]
    simp [tot, tot_bump_out c i m (by omega), e]
theorem tot_bump (c : Nat → Int) (i : Nat) : ∀ m, i < m → tot (bump c i) m = tot c m + 1
  | 0, h => by omega
  | m + 1, h => by
    by_cases e : i = m
    · subst e
      have e1 : bump c i i = c i + 1 := by unfold bump; rw [if_pos rfl]
      simp only [tot, tot_bump_out c i i (by omega), e1]
      omega
    · have e1 : bump c i m = c m := by unfold bump; rw [if_neg (by omega)]
      simp only [tot, tot_bump c i m (by omega), e1]
      omega
theorem tot_nonneg {c : Nat → Int} (h : ∀ i, 0 ≤ c i) : ∀ m, 0 ≤ tot c m
  | 0 => by simp [tot]
  | m + 1 => by have := tot_nonneg h m; have := h m; simp only [tot]; omega
theorem tot_le {c : Nat → Int} (h : ∀ i, 0 ≤ c i) (a : Nat) : ∀ m, a ≤ m → tot c a ≤ tot c m
  | 0, g => by obtain rfl : a = 0 := by omega
               exact Int.le_refl _
  | m + 1, g => by
    by_cases e : a = m + 1
    · subst e; exact Int.le_refl _
    · have := tot_le h a m (by omega); have := h m; simp only [tot]; omega

/-- The law's own table: 26 counters. -/
structure ArrAt (w : World) (ab : Nat) (c : Nat → Int) : Prop where
  cnt : ∀ i, i < 26 → w.cell? ⟨ab, i, none⟩ = some (.int .u64 (c i))
  free : ∀ i, i < 26 → w.frozen? ⟨ab, i, none⟩ = false
theorem ArrAt.ext {w w' : World} {ab : Nat} {c : Nat → Int} (h : ArrAt w ab c) (k : Ext w w') : ArrAt w' ab c :=
  ⟨fun i hi => k.cell (h.cnt i hi), fun i hi => k.frozen (h.cnt i hi) (h.free i hi)⟩
theorem ArrAt.bump {w : World} {ab : Nat} {c : Nat → Int} (h : ArrAt w ab c) (i : Nat) (hi : i < 26) : ArrAt (w.setCell ⟨ab, i, none⟩ (.int .u64 (c i + 1))) ab (bump c i) := by
  refine ⟨fun j hj => ?_, fun j hj => ?_⟩
  · by_cases e : j = i
    · subst e
      rw [cell_same (h.cnt j hj)]
      simp [Qxb6609285aDoor.bump]
    · rw [cell_other (a := ⟨ab, i, none⟩) (b := ⟨ab, j, none⟩) (by intro g; injection g with _ g2 _; omega), h.cnt j hj]
      simp [Qxb6609285aDoor.bump, e]
  · rw [World.frozen?_setCell]; exact h.free j hj
theorem ArrAt.other {w : World} {ab b k : Nat} {c : Nat → Int} {v : Value} (h : ArrAt w ab c) (hc : b ≠ ab) : ArrAt (w.setCell ⟨b, k, none⟩ v) ab c :=
  ⟨fun j hj => by rw [cell_other (a := ⟨b, k, none⟩) (b := ⟨ab, j, none⟩) (by intro g; injection g with g1 _ _; exact hc g1)]; exact h.cnt j hj, fun j hj => by rw [World.frozen?_setCell]; exact h.free j hj⟩
theorem TallyAt.other {w : World} {tb fb b k : Nat} {c : Nat → Int} {v : Value} (h : TallyAt w tb fb c) (hc : b ≠ tb) : TallyAt (w.setCell ⟨b, k, none⟩ v) tb fb c :=
  ⟨by rw [cell_other (a := ⟨b, k, none⟩) (b := ⟨tb, 0, none⟩) (by intro g; injection g with g1 _ _; exact hc g1)]; exact h.f,
   fun j hj => by rw [cell_other (a := ⟨b, k, none⟩) (b := ⟨tb, 1 + j, none⟩) (by intro g; injection g with g1 _ _; exact hc g1)]; exact h.cnt j hj, fun j hj => by rw [World.frozen?_setCell]; exact h.free j hj⟩
theorem bump_nonneg {c : Nat → Int} (h : ∀ i, 0 ≤ c i) (i : Nat) : ∀ j, 0 ≤ bump c i j := fun j => by have := h j; unfold bump; split <;> omega

/-- The frames: slices of bytes. -/
structure Frames (w : World) (a : Option Addr) (b o nf : Nat) (fa : Nat → Option Addr) (fb fo fn fk : Nat → Nat) (F : Nat → Nat → Int) : Prop where
  row : Slc w a b o nf (fun i => .slice (fa i) (fn i) (fk i))
  one : ∀ i, i < nf → Slc w (fa i) (fb i) (fo i) (fn i) (fun j => .int .u8 (F i j))
theorem Frames.ext {w w' : World} {a : Option Addr} {b o nf : Nat} {fa : Nat → Option Addr} {fb fo fn fk : Nat → Nat} {F : Nat → Nat → Int} (h : Frames w a b o nf fa fb fo fn fk F) (k : Ext w w') : Frames w' a b o nf fa fb fo fn fk F :=
  ⟨h.row.ext k, fun i hi => (h.one i hi).ext k⟩

set_option maxRecDepth 100000 in
set_option maxHeartbeats 2000000 in
theorem bytes3_any (rd : Int) (l1 l2 l3 l4 l5 l6 nf l8 c1 c2 c3 c4 c5 c6 c7 c8 b7 o7 : Nat) (a1 a2 a3 a4 a5 a6 a7 a8 : Option Addr) (fa : Nat → Option Addr) (fn fk : Nat → Nat) (w : World) (s7 : Slc w a7 b7 o7 nf (fun i => .slice (fa i) (fn i) (fk i))) :
    Calls Tryd.prog 13 #[.int .u8 rd, .slice a1 l1 c1, .slice a2 l2 c2, .slice a3 l3 c3, .slice a4 l4 c4, .slice a5 l5 c5, .slice a6 l6 c6, .slice a7 nf c7, .slice a8 l8 c8] w fun e w' =>
      ∃ b : Bool, e = .returned (.bool b) ∧ w' = w ∧ (b = true → l1 + l2 + l3 + l4 + l5 + l6 + nf + l8 ≤ 1048576 ∧ ∀ i, i < nf → fn i ≤ 1048576) := by
  have S7 := hide s7
  clear s7
  go_enter Tryd.func13, Tryd.ntmps13
  go_wp2_with fail
  any_goals (go_ret; exact ⟨false, rfl, rfl, fun h => by cases h⟩)
  go_loopw [19, 20] (fun x y wr => ∃ T k : Nat, k ≤ nf ∧ l1 + l2 + l3 + l4 + l5 + l6 + nf ≤ T ∧ T ≤ 1048576 ∧ x = .int .i64 T ∧ y = .int .i64 k ∧ wr = w ∧ Hid (∀ i, i < k → fn i ≤ 1048576)) (fun _ y _ => nf - (intOf y).toNat)
  case atStart => exact ⟨l1 + l2 + l3 + l4 + l5 + l6 + nf, 0, by omega, by omega, by omega, by go_num, rfl, rfl, fun i hi => absurd hi (by omega)⟩
  case round =>
    obtain ⟨T, k, hk, hT0, hT, rfl, rfl, hwr, hA⟩ := hrel
    obtain rfl : w = wr := hwr.symm
    clear hwr
    by_cases hlt : k < nf
    · have hlti : (k : Int) < nf := by omega
      have had := S7.out.ad (by omega)
      subst had
      have hc : w.cell? ⟨b7, o7 + k, none⟩ = some (.slice (fa k) (fn k) (fk k)) := S7.out.cell k hlt
      have HA' : fn k ≤ 1048576 → Hid (∀ i, i < k + 1 → fn i ≤ 1048576) := fun h i hi => by
        by_cases e : i = k
        · subst e; exact h
        · exact hA.out i (by omega)
      generalize fn k = fnk at *
      go_wp2_with fail
      any_goals (go_ret; exact ⟨false, rfl, rfl, fun h => by cases h⟩)
      go_roundw
      case rel => exact ⟨T + fnk, k + 1, by omega, by omega, by omega, by go_num, by go_num, by trivial, HA' (by omega)⟩
      case measure => (simp [intOf] <;> omega)
    · obtain rfl : k = nf := by omega
      go_wp2_with fail
      all_goals
        go_ret
        first
          | exact ⟨false, rfl, rfl, fun h => by cases h⟩
          | exact ⟨true, rfl, rfl, fun _ => ⟨by omega, hA.out⟩⟩
end Go.Proofs.Qxb6609285aDoor
