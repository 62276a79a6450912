/- ranges.find. -/
import Derived.Test.Qxb6609343aWalkC
namespace Go.Proofs.Qxb6609343a
open Go.RowKit Go.Proofs
set_option linter.unusedVariables false
set_option linter.unusedSimpArgs false

/-- What find answers: the mapping's four cells, or none. -/
def FindIs (n : Nat) (lo hi cid : Nat → Nat) (code : Nat) (v : Value) : Prop :=
  (∃ i, i < n ∧ lo i ≤ code ∧ code ≤ hi i ∧ v = .tuple #[.agg #[.int .u32 (lo i), .int .u32 (hi i), .slice none 0 0, .int .u32 (cid i)], .bool true]) ∨
  ((∀ i, i < n → ¬ (lo i ≤ code ∧ code ≤ hi i)) ∧ v = .tuple #[.agg #[.int .u32 0, .int .u32 0, .slice none 0 0, .int .u32 0], .bool false])

/-- Four cells written, one behind the other. -/
def set4 (w : World) (b : Nat) (v0 v1 v2 v3 : Value) : World := (((w.setCell ⟨b, 0, none⟩ v0).setCell ⟨b, 1, none⟩ v1).setCell ⟨b, 2, none⟩ v2).setCell ⟨b, 3, none⟩ v3
theorem set4_cells {w : World} {b : Nat} {u0 u1 u2 u3 : Value} (v0 v1 v2 v3 : Value) (h0 : w.cell? ⟨b, 0, none⟩ = some u0) (h1 : w.cell? ⟨b, 1, none⟩ = some u1) (h2 : w.cell? ⟨b, 2, none⟩ = some u2) (h3 : w.cell? ⟨b, 3, none⟩ = some u3) :
    (set4 w b v0 v1 v2 v3).cell? ⟨b, 0, none⟩ = some v0 ∧ (set4 w b v0 v1 v2 v3).cell? ⟨b, 1, none⟩ = some v1 ∧ (set4 w b v0 v1 v2 v3).cell? ⟨b, 2, none⟩ = some v2 ∧ (set4 w b v0 v1 v2 v3).cell? ⟨b, 3, none⟩ = some v3 := by
  have ne : ∀ (w : World) (i j : Nat) (v : Value), i ≠ j → (w.setCell ⟨b, i, none⟩ v).cell? ⟨b, j, none⟩ = w.cell? ⟨b, j, none⟩ := fun w i j v hij => cell_other (a := ⟨b, i, none⟩) (b := ⟨b, j, none⟩) (by intro g; injection g with _ g2 _; exact hij g2)
  unfold set4
  refine ⟨?_, ?_, ?_, ?_⟩
  · rw [ne _ 3 0 _ (by decide), ne _ 2 0 _ (by decide), ne _ 1 0 _ (by decide)]; exact cell_same h0
  · rw [ne _ 3 1 _ (by decide), ne _ 2 1 _ (by decide)]; exact cell_same (u := u1) (by rw [ne _ 0 1 _ (by decide)]; exact h1)
  · rw [ne _ 3 2 _ (by decide)]; exact cell_same (u := u2) (by rw [ne _ 1 2 _ (by decide), ne _ 0 2 _ (by decide)]; exact h2)
  · exact cell_same (u := u3) (by rw [ne _ 2 3 _ (by decide), ne _ 1 3 _ (by decide), ne _ 0 3 _ (by decide)]; exact h3)
theorem Ext.set4 {w w2 : World} (h : Ext w w2) {b : Nat} (hb : w.heap.size ≤ b) (v0 v1 v2 v3 : Value) : Ext w (set4 w2 b v0 v1 v2 v3) := (((h.setCell hb v0).setCell hb v1).setCell hb v2).setCell hb v3

set_option maxRecDepth 10000 in
set_option maxHeartbeats 2000000 in
theorem find_any (mb lb sb n code : Nat) (lo hi cid : Nat → Nat) (bv : Option Addr) (w : World) (hn : n ≤ 32768) (ho : Ord n lo hi) (hm : MapAt w mb lb sb n lo hi cid bv) :
    Calls Try.prog 18 #[.pointer (some ⟨mb, 261, none⟩), .int .u32 code] w fun e w' => ∃ v, e = .returned v ∧ FindIs n lo hi cid code v ∧ Ext w w' := by
  have HM := hide hm
  have HO := hide ho
  have k2 := hm.spans
  have hlt := World.block_lt_of_cell? _ _ k2
  clear hm ho
  have hmono : ∀ a b, a ≤ b → b < n → decide (code ≤ hi a) = true → decide (code ≤ hi b) = true := fun a b hab hb h => by
    by_cases e : a = b
    · subst e; exact h
    · have h1 := ord_lt HO.out a b (by omega) hb
      have h2 := (HO.out b hb).1
      simp at h ⊢; omega
  have HMo := hide hmono
  clear hmono
  go_enter Try.func18, Try.ntmps18
  go_upto_region 1 with fail
  obtain ⟨W1, hW1⟩ : ∃ W, W = ((w.alloc (.cells #[.pointer (some ⟨mb, 261, none⟩)] 63)).alloc (.cells #[.int .u32 code] 26)).alloc (.cells #[.int .u32 0, .int .u32 0, .slice none 0 0, .int .u32 0] 53) := ⟨_, rfl⟩
  have hx1 : Ext w W1 := by rw [hW1]; exact (((Ext.refl _).alloc _).alloc _).alloc _
  have a0 : W1.cell? ⟨w.heap.size, 0, none⟩ = some (.pointer (some ⟨mb, 261, none⟩)) := by rw [hW1]; simp [go_sem]
  have a1 : W1.cell? ⟨w.heap.size + 1, 0, none⟩ = some (.int .u32 code) := by rw [hW1]; simp [go_sem]
  have e0 : W1.cell? ⟨w.heap.size + 1 + 1, 0, none⟩ = some (.int .u32 0) := by rw [hW1]; simp [go_sem]
  have e1 : W1.cell? ⟨w.heap.size + 1 + 1, 1, none⟩ = some (.int .u32 0) := by rw [hW1]; simp [go_sem]
  have e2 : W1.cell? ⟨w.heap.size + 1 + 1, 2, none⟩ = some (.slice none 0 0) := by rw [hW1]; simp [go_sem]
  have e3 : W1.cell? ⟨w.heap.size + 1 + 1, 3, none⟩ = some (.int .u32 0) := by rw [hW1]; simp [go_sem]
  have f0 : W1.frozen? ⟨w.heap.size + 1 + 1, 0, none⟩ = false := by rw [hW1]; simp [go_sem]
  have f1 : W1.frozen? ⟨w.heap.size + 1 + 1, 1, none⟩ = false := by rw [hW1]; simp [go_sem]
  have f2 : W1.frozen? ⟨w.heap.size + 1 + 1, 2, none⟩ = false := by rw [hW1]; simp [go_sem]
  have f3 : W1.frozen? ⟨w.heap.size + 1 + 1, 3, none⟩ = false := by rw [hW1]; simp [go_sem]
  rw [← hW1]
  clear hW1
  have HX1 := hide hx1
  have HM1 := hide (HM.out.ext hx1)
  have HF : Hid (∀ w1, Ext W1 w1 → ∀ i, i < n → Calls Try.prog 25 (#[.int .i64 i] ++ #[.pointer (some ⟨w.heap.size, 0, none⟩), .pointer (some ⟨w.heap.size + 1, 0, none⟩)]) w1 fun e w' => e = .returned (.bool ((fun i => decide (code ≤ hi i)) i)) ∧ Ext w1 w') := fun w1 hx i hi' =>
    closure_any i n mb sb w.heap.size (w.heap.size + 1) code (hi i) w1 hi' (hx.cell a0) (hx.cell a1) (hx.cell HM1.out.spans) (hx.cell (HM1.out.S.cell i 1 hi' (by omega)))
  have A := hide (And.intro a0 (And.intro a1 (And.intro e0 (And.intro e1 (And.intro e2 (And.intro e3 (And.intro f0 (And.intro f1 (And.intro f2 f3)))))))))
  clear a1 e0 e1 e2 e3 f0 f1 f2 f3 hx1
  replace k2 := HM1.out.spans
  go_wp2_with (go_at_call 24; refine (search_any _ n (fun i => decide (code ≤ hi i)) W1 hn HF.out HMo.out).mono ?_; rintro e w2 ⟨r, hr, rfl, h1, h2, hx2⟩; have R1 := hide h1; have R2 := hide h2; have X2 := hide hx2; clear h1 h2 hx2)
  have HM2 := hide (HM1.out.ext X2.out)
  have HXw := hide (HX1.out.trans X2.out)
  obtain ⟨b0, b1, b2, b3, b4, b5, g0, g1, g2, g3⟩ := A.out
  have a1 := X2.out.cell b1
  have e0 := X2.out.cell b2
  have e1 := X2.out.cell b3
  have e2 := X2.out.cell b4
  have e3 := X2.out.cell b5
  have f0 := X2.out.frozen b2 g0
  have f1 := X2.out.frozen b3 g1
  have f2 := X2.out.frozen b4 g2
  have f3 := X2.out.frozen b5 g3
  replace a0 := X2.out.cell b0
  clear b0 b1 b2 b3 b4 b5 g0 g1 g2 g3 A HF X2 HM HX1 k2 HM1
  have k2 := HM2.out.spans
  have hs2 : w.heap.size + 1 + 1 < w2.heap.size := World.block_lt_of_cell? _ _ e0
  by_cases hrn : r < n
  · have hrni : (r : Int) < n := by omega
    have c0 := HM2.out.S.cell r 0 hrn (by omega)
    replace c0 : w2.cell? ⟨sb, r * 3, none⟩ = some (.int .u32 (lo r)) := c0
    have hhr : code ≤ hi r := by have := R2.out hrn; simpa using this
    by_cases hlo : lo r ≤ code
    · have hloi : (lo r : Int) ≤ (code : Int) := by omega
      have HV : Hid (FindIs n lo hi cid code (.tuple #[.agg #[.int .u32 (lo r), .int .u32 (hi r), .slice none 0 0, .int .u32 (cid r)], .bool true])) := .inl ⟨r, hrn, hlo, hhr, rfl⟩
      have c2 := HM2.out.S.cell r 2 hrn (by omega)
      replace c2 : w2.cell? ⟨sb, r * 3 + 2, none⟩ = some (.int .i32 (r : Nat)) := c2
      have k1 := HM2.out.list
      have l0 := HM2.out.L.cell r 0 hrn (by omega)
      replace l0 : w2.cell? ⟨lb, r * 4, none⟩ = some (.int .u32 (lo r)) := l0
      have l1 := HM2.out.L.cell r 1 hrn (by omega)
      replace l1 : w2.cell? ⟨lb, r * 4 + 1, none⟩ = some (.int .u32 (hi r)) := l1
      have l2 := HM2.out.L.cell r 2 hrn (by omega)
      replace l2 : w2.cell? ⟨lb, r * 4 + 2, none⟩ = some (.slice none 0 0) := l2
      have l3 := HM2.out.L.cell r 3 hrn (by omega)
      replace l3 : w2.cell? ⟨lb, r * 4 + 3, none⟩ = some (.int .u32 (cid r)) := l3
      generalize lo r = lr at *
      generalize hi r = hr' at *
      generalize cid r = cr at *
      go_quiet (fail)
      go_wp2_with fail
      go_region
      go_wp2_with fail
      have hx := (HXw.out.drewN (nq + 1)).set4 (b := w.heap.size + 1 + 1) (by omega) (.int .u32 lr) (.int .u32 hr') (.slice none 0 0) (.int .u32 cr)
      obtain ⟨x0, x1, x2, x3⟩ := set4_cells (w := w2.drewN (nq + 1)) (.int .u32 lr) (.int .u32 hr') (.slice none 0 0) (.int .u32 cr) e0 e1 e2 e3
      refine bodyPost_ret (v := .tuple #[.agg #[(.int .u32 lr), (.int .u32 hr'), (.slice none 0 0), (.int .u32 cr)], .bool true]) (w := set4 (w2.drewN (nq + 1)) (w.heap.size + 1 + 1) (.int .u32 lr) (.int .u32 hr') (.slice none 0 0) (.int .u32 cr)) ?_ rfl ⟨_, rfl, HV.out, hx⟩
      generalize set4 (w2.drewN (nq + 1)) (w.heap.size + 1 + 1) (.int .u32 lr) (.int .u32 hr') (.slice none 0 0) (.int .u32 cr) = W9 at *
      simp [results, Try.results18, go_sem, x0, x1, x2, x3]
    · have hloi : ¬ (lo r : Int) ≤ (code : Int) := by omega
      have HV : Hid (FindIs n lo hi cid code (.tuple #[.agg #[.int .u32 0, .int .u32 0, .slice none 0 0, .int .u32 0], .bool false])) := .inr ⟨fun i hi' ⟨g1, g2⟩ => by
        rcases Nat.lt_trichotomy i r with q | q | q
        · have := R1.out i q; simp at this; omega
        · subst q; exact hlo g1
        · have := ord_lt HO.out r i q hi'; omega, rfl⟩
      generalize lo r = lr at *
      go_quiet (fail)
      go_wp2_with fail
      have hx := (HXw.out.drewN (nq)).set4 (b := w.heap.size + 1 + 1) (by omega) (.int .u32 0) (.int .u32 0) (.slice none 0 0) (.int .u32 0)
      obtain ⟨x0, x1, x2, x3⟩ := set4_cells (w := w2.drewN (nq)) (.int .u32 0) (.int .u32 0) (.slice none 0 0) (.int .u32 0) e0 e1 e2 e3
      refine bodyPost_ret (v := .tuple #[.agg #[(.int .u32 0), (.int .u32 0), (.slice none 0 0), (.int .u32 0)], .bool false]) (w := set4 (w2.drewN (nq)) (w.heap.size + 1 + 1) (.int .u32 0) (.int .u32 0) (.slice none 0 0) (.int .u32 0)) ?_ rfl ⟨_, rfl, HV.out, hx⟩
      generalize set4 (w2.drewN (nq)) (w.heap.size + 1 + 1) (.int .u32 0) (.int .u32 0) (.slice none 0 0) (.int .u32 0) = W9 at *
      simp [results, Try.results18, go_sem, x0, x1, x2, x3]
  · have hrni : ¬ (r : Int) < n := by omega
    have HV : Hid (FindIs n lo hi cid code (.tuple #[.agg #[.int .u32 0, .int .u32 0, .slice none 0 0, .int .u32 0], .bool false])) := .inr ⟨fun i hi' ⟨g1, g2⟩ => by
      have := R1.out i (by omega); simp at this; omega, rfl⟩
    go_quiet (fail)
    go_wp2_with fail
    have hx := (HXw.out.drewN (nq)).set4 (b := w.heap.size + 1 + 1) (by omega) (.int .u32 0) (.int .u32 0) (.slice none 0 0) (.int .u32 0)
    obtain ⟨x0, x1, x2, x3⟩ := set4_cells (w := w2.drewN (nq)) (.int .u32 0) (.int .u32 0) (.slice none 0 0) (.int .u32 0) e0 e1 e2 e3
    refine bodyPost_ret (v := .tuple #[.agg #[(.int .u32 0), (.int .u32 0), (.slice none 0 0), (.int .u32 0)], .bool false]) (w := set4 (w2.drewN (nq)) (w.heap.size + 1 + 1) (.int .u32 0) (.int .u32 0) (.slice none 0 0) (.int .u32 0)) ?_ rfl ⟨_, rfl, HV.out, hx⟩
    generalize set4 (w2.drewN (nq)) (w.heap.size + 1 + 1) (.int .u32 0) (.int .u32 0) (.slice none 0 0) (.int .u32 0) = W9 at *
    simp [results, Try.results18, go_sem, x0, x1, x2, x3]
end Go.Proofs.Qxb6609343a
