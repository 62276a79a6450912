import Derived.Test.Qxb6609285aDoorWalkB
namespace Go.Proofs.Qxb6609285aDoor
open Go.RowKit Go.Proofs
set_option linter.unusedVariables false
set_option linter.unusedSimpArgs false

/-- A direction without rules forwards. -/
theorem decide_nil (fb d cap : Nat) (sa : Option Addr) (p : Value) (w : World) (hd : d < 2) (h : w.cell? ⟨fb, d, none⟩ = some (.slice sa 0 cap)) :
    Calls Tryd.prog 15 #[.pointer (some ⟨fb, 0, none⟩), .int .u8 d, p] w fun e w' => e = .returned (.agg #[.bool true, .int .i64 0]) ∧ Ext w w' := by
  have hfb := World.block_lt_of_cell? w _ h
  go_enter Tryd.func15, Tryd.ntmps15
  go_wp2
  go_loopw [8] (fun i wr => i = .int .i64 0 ∧ wr = w.alloc (.cells #[.bool false, .int .i64 0] 35)) (fun i _ => 0)
  case atStart => exact ⟨rfl, rfl⟩
  case round =>
    obtain ⟨rfl, rfl⟩ := hrel
    go_wp2_with (go_at_call 20; refine (unmatched_any fb d 0 cap sa _ hd (by omega) (by simp [go_sem, hfb, h])).mono ?_; rintro e w' ⟨rfl, rfl⟩)
    exact bodyPost_ret (v := .agg #[.bool true, .int .i64 0]) (by simp [results, Tryd.results15, go_sem]) rfl ⟨rfl, (Ext.refl w).alloc _⟩

/-- Filter.Decide, whatever the direction holds. -/
def DecC (w : World) (fb d : Nat) (p : Value) (n : Nat) (m more fwd : Nat → Bool) : Prop :=
  ∀ w1, Ext w w1 → Calls Tryd.prog 15 #[.pointer (some ⟨fb, 0, none⟩), .int .u8 d, p] w1 fun e w' => ∃ b r, e = .returned (.agg #[.bool b, .int .i64 (r : Nat)]) ∧ IsDec n m more fwd b r ∧ Ext w1 w'

theorem decC_nil {w : World} {fb d cap : Nat} {sa : Option Addr} {p : Value} {m more fwd : Nat → Bool} (hd : d < 2) (h : w.cell? ⟨fb, d, none⟩ = some (.slice sa 0 cap)) : DecC w fb d p 0 m more fwd := by
  intro w1 hx
  refine (decide_nil fb d cap sa p w1 hd (hx.cell h)).mono ?_
  rintro e w' ⟨rfl, hx'⟩
  exact ⟨true, 0, rfl, .inr ⟨fun i hi => absurd hi (by omega), rfl, rfl⟩, hx'⟩

theorem decC_some {w : World} {fb d n cap rb : Nat} {p : Value} {m more fwd : Nat → Bool} (hd : d < 2) (hn : n ≤ 12) (h : w.cell? ⟨fb, d, none⟩ = some (.slice (some ⟨rb, 0, none⟩) n cap))
    (hr : RulesAt w rb n more fwd)
    (hm : ∀ i, i < n → ∀ w1, Ext w w1 → Calls Tryd.prog 19 #[.pointer (some ⟨rb, i * 18, none⟩), p] w1 fun e w2 => e = .returned (.bool (m i)) ∧ Ext w1 w2) : DecC w fb d p n m more fwd := by
  intro w1 hx
  exact decide_some fb d n cap rb p m more fwd w1 hd hn (hx.cell h) (hr.ext hx) (fun i hi w2 hx2 => hm i hi w2 (hx.trans hx2))

/-- The tally as it lies: the filter's pointer, 26 counters. -/
structure TallyAt (w : World) (tb fb : Nat) (c : Nat → Int) : Prop where
  f : w.cell? ⟨tb, 0, none⟩ = some (.pointer (some ⟨fb, 0, none⟩))
  cnt : ∀ i, i < 26 → w.cell? ⟨tb, 1 + i, none⟩ = some (.int .u64 (c i))
  free : ∀ i, i < 26 → w.frozen? ⟨tb, 1 + i, none⟩ = false

theorem TallyAt.ext {w w' : World} {tb fb : Nat} {c : Nat → Int} (h : TallyAt w tb fb c) (k : Ext w w') : TallyAt w' tb fb c :=
  ⟨k.cell h.f, fun i hi => k.cell (h.cnt i hi), fun i hi => k.frozen (h.cnt i hi) (h.free i hi)⟩

/-- One old cell written, in both worlds. -/
theorem Ext.both {w w1 : World} (h : Ext w w1) (a : Addr) (v : Value) : Ext (w.setCell a v) (w1.setCell a v) := by
  refine ⟨h.os, h.tape, h.output, by simpa [World.setCell] using h.size, fun k hk => ?_⟩
  have hk' : k < w.heap.size := by simpa [World.setCell] using hk
  simp only [World.setCell, Array.getElem?_modify]
  rw [h.block k hk']

theorem cell_same {w : World} {a : Addr} {v u : Value} (h : w.cell? a = some u) : (w.setCell a v).cell? a = some v := World.cell?_setCell_same _ _ _ h
theorem cell_other {w : World} {a b : Addr} {v : Value} (h : a ≠ b) : (w.setCell a v).cell? b = w.cell? b := by
  first | exact World.cell?_setCell_other w a b v h | exact World.cell?_setCell_other w a v b h | exact World.cell?_setCell_other _ _ _ h | exact World.cell?_setCell_other _ _ _ _ h

/-- Counter i raised by one. -/
def bump (c : Nat → Int) (i : Nat) : Nat → Int := fun j => if j = i then c j + 1 else c j

theorem TallyAt.bump {w : World} {tb fb : Nat} {c : Nat → Int} (h : TallyAt w tb fb c) (i : Nat) (hi : i < 26) : TallyAt (w.setCell ⟨tb, 1 + i, none⟩ (.int .u64 (c i + 1))) tb fb (bump c i) := by
  refine ⟨?_, fun j hj => ?_, fun j hj => ?_⟩
  · rw [cell_other (a := ⟨tb, 1 + i, none⟩) (b := ⟨tb, 0, none⟩) (by simp)]; exact h.f
  · by_cases e : j = i
    · subst e
      rw [cell_same (h.cnt j hj)]
      simp [Qxb6609285aDoor.bump]
    · rw [cell_other (a := ⟨tb, 1 + i, none⟩) (b := ⟨tb, 1 + j, none⟩) (by intro g; injection g with _ g2 _; omega), h.cnt j hj]
      simp [Qxb6609285aDoor.bump, e]
  · rw [World.frozen?_setCell]; exact h.free j hj

set_option maxHeartbeats 1000000 in
/-- Tally.Decide: it decides as the filter does and raises one counter by one. -/
theorem tdecide_any (tb fb d : Nat) (p : Value) (n : Nat) (m more fwd : Nat → Bool) (c : Nat → Int) (w : World) (hd : d < 2) (hn : n ≤ 12) (ht : TallyAt w tb fb c) (hc0 : ∀ i, 0 ≤ c i) (hc1 : ∀ i, c i < 18446744073709551615)
    (hdec : Hid (DecC w fb d p n m more fwd)) :
    Calls Tryd.prog 11 #[.pointer (some ⟨tb, 0, none⟩), .int .u8 d, p] w fun e w' => ∃ b r, e = .returned (.agg #[.bool b, .int .i64 (r : Nat)]) ∧ IsDec n m more fwd b r ∧ Ext (w.setCell ⟨tb, 1 + (d * 13 + r), none⟩ (.int .u64 (c (d * 13 + r) + 1))) w' := by
  have h0 := ht.f
  have htb := World.block_lt_of_cell? w _ h0
  go_enter Tryd.func11, Tryd.ntmps11
  go_wp2_with (go_at_call 15; refine (hdec.out _ ?_).mono ?_; (exact (Ext.refl w).alloc _); rintro e w1 ⟨b, r, rfl, hb, hx⟩)
  have hr := hb.le
  have htx := (ht.ext hx.new)
  have hcell := htx.cnt (d * 13 + r) (by omega)
  have hfr := htx.free (d * 13 + r) (by omega)
  rw [← Nat.add_assoc] at hcell hfr
  have htb1 : tb < w1.heap.size := Nat.lt_of_lt_of_le htb hx.new.size
  have hz1 : w.heap.size < w1.heap.size := by have := hx.size; simp at this; omega
  have hne : ¬ tb = w.heap.size := by omega
  have c0 := hx.cell (p := ⟨w.heap.size, 0, none⟩) (v := .bool false) (by simp [go_sem])
  have c1 := hx.cell (p := ⟨w.heap.size, 1, none⟩) (v := .int .i64 0) (by simp [go_sem])
  have f0 := hx.frozen (p := ⟨w.heap.size, 0, none⟩) (v := .bool false) (by simp [go_sem]) (by simp [go_sem])
  have f1 := hx.frozen (p := ⟨w.heap.size, 1, none⟩) (v := .int .i64 0) (by simp [go_sem]) (by simp [go_sem])
  have HB := hide hb
  have a0 := hc0 (d * 13 + r)
  have a1 := hc1 (d * 13 + r)
  have hX := hide hx.new
  clear hb hx
  generalize hcv : c (d * 13 + r) = cv at *
  have HC := hide hcv
  have hdi : (d : Int) < 2 := by omega
  have hri : (r : Int) < 13 := by omega
  clear hcv
  go_region_with (go_at_call 17; refine (add_any _ cv _ ?_ ?_ a0 a1).mono ?_; (simp [go_sem, htb1, hcell]); (simp [go_sem, htb1, hfr]); rintro e w' ⟨rfl, rfl⟩)
  go_wp2
  refine bodyPost_ret (v := .agg #[.bool b, .int .i64 (r : Int)]) (by simp [results, Tryd.results11, go_sem, c0, c1, hz1, cell_other, hne]) rfl ⟨b, r, rfl, HB.out, ?_⟩
  rw [HC.out, ← Nat.add_assoc]
  exact ((((hX.out.both _ _).setCell (by simp [World.setCell]) _).setCell (by simp [World.setCell]) _).alloc _).drew
end Go.Proofs.Qxb6609285aDoor
