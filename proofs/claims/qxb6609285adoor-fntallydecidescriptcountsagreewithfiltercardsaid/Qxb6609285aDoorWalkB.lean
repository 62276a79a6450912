import Derived.Test.Qxb6609285aDoorWalkA
import Derived.Test.Qxb6609285aDoorPlain
namespace Go.Proofs.Qxb6609285aDoor
open Go.RowKit Go.Proofs
set_option linter.unusedVariables false

theorem hide {p : Prop} (h : p) : Hid p := h

/-- w' is w with blocks added: nothing that was there has turned. -/
def Ext (w w' : World) : Prop := Below w.heap.size w w'
theorem Ext.refl (w : World) : Ext w w := Below.refl _ _
theorem Ext.size {a b : World} (h : Ext a b) : a.heap.size ≤ b.heap.size := Below.size h
theorem Ext.trans {a b c : World} (h : Ext a b) (k : Ext b c) : Ext a c := Below.trans h (Below.mono k h.size)
theorem Ext.alloc {a b : World} (h : Ext a b) (o : Obj) : Ext a (b.alloc o) := Below.alloc h h.size o
theorem Ext.drew {a b : World} (h : Ext a b) : Ext a b.drew := Below.drew h
theorem Ext.setCell {a b : World} (h : Ext a b) {p : Addr} (hp : a.heap.size ≤ p.block) (u : Value) : Ext a (b.setCell p u) := Below.setCell h hp u
theorem Ext.cell {a b : World} (h : Ext a b) {p : Addr} {v : Value} (hc : a.cell? p = some v) : b.cell? p = some v :=
  (Below.cell h (World.block_lt_of_cell? a p hc)).trans hc
theorem Ext.frozen {a b : World} (h : Ext a b) {p : Addr} {v : Value} (hc : a.cell? p = some v) (hf : a.frozen? p = false) : b.frozen? p = false :=
  (Below.frozen h (World.block_lt_of_cell? a p hc)).trans hf
theorem Ext.new {a b : World} {o : Obj} (h : Ext (a.alloc o) b) : Ext a b := ((Ext.refl a).alloc o).trans h

/-- The rules of one direction, as they lie: n of them, 18 cells each, from the head of block rb on. -/
structure RulesAt (w : World) (rb n : Nat) (more fwd : Nat → Bool) : Prop where
  fwd : ∀ i, i < n → w.cell? ⟨rb, i * 18 + 1, none⟩ = some (.bool (fwd i))
  more : ∀ i, i < n → w.cell? ⟨rb, i * 18 + 17, none⟩ = some (.bool (more i))

theorem RulesAt.ext {w w' : World} {rb n : Nat} {more fwd : Nat → Bool} (h : RulesAt w rb n more fwd) (k : Ext w w') : RulesAt w' rb n more fwd :=
  ⟨fun i hi => k.cell (h.fwd i hi), fun i hi => k.cell (h.more i hi)⟩

theorem unmatched_any (fb d n cap : Nat) (sa : Option Addr) (w : World) (hd : d < 2) (hn : n ≤ 12) (h : w.cell? ⟨fb, d, none⟩ = some (.slice sa n cap)) :
    Calls Tryd.prog 20 #[.pointer (some ⟨fb, 0, none⟩), .int .u8 d] w fun e w' => e = .returned (.bool (decide (n = 0))) ∧ w' = w := by
  have e : decide (n = 0) = ((n : Int) == 0) := by rw [Bool.eq_iff_iff]; simp
  rw [e]
  go_enter Tryd.func20, Tryd.ntmps20
  go_wp2
  go_ret
  exact ⟨rfl, rfl⟩

set_option maxHeartbeats 1000000 in
theorem decide_some (fb d n cap rb : Nat) (p : Value) (m more fwd : Nat → Bool) (w : World) (hd : d < 2) (hn : n ≤ 12) (h : w.cell? ⟨fb, d, none⟩ = some (.slice (some ⟨rb, 0, none⟩) n cap))
    (hr : RulesAt w rb n more fwd)
    (hm : Hid (∀ i, i < n → ∀ w1, Ext w w1 → Calls Tryd.prog 19 #[.pointer (some ⟨rb, i * 18, none⟩), p] w1 fun e w2 => e = .returned (.bool (m i)) ∧ Ext w1 w2)) :
    Calls Tryd.prog 15 #[.pointer (some ⟨fb, 0, none⟩), .int .u8 d, p] w fun e w' => ∃ b r, e = .returned (.agg #[.bool b, .int .i64 (r : Nat)]) ∧ IsDec n m more fwd b r ∧ Ext w w' := by
  have hfb := World.block_lt_of_cell? w _ h
  go_enter Tryd.func15, Tryd.ntmps15
  go_wp2
  go_loopw [8] (fun i wr => ∃ k : Nat, k ≤ n ∧ i = .int .i64 k ∧ Ext (w.alloc (.cells #[.bool false, .int .i64 0] 35)) wr ∧ Hid (k = n ∨ Head more k) ∧ Hid (∀ j, j < k → Head more j → ¬ Holds n m more j)) (fun i _ => n - (intOf i).toNat)
  case atStart => exact ⟨0, Nat.zero_le _, rfl, Ext.refl _, .inr (.inl rfl), fun j hj => absurd hj (by omega)⟩
  case round =>
    obtain ⟨k, hk, rfl, hx, hh, hnone⟩ := hrel
    have c0 := hx.cell (p := ⟨w.heap.size, 0, none⟩) (v := .bool false) (by simp [go_sem])
    have c1 := hx.cell (p := ⟨w.heap.size, 1, none⟩) (v := .int .i64 0) (by simp [go_sem])
    have f0 := hx.frozen (p := ⟨w.heap.size, 0, none⟩) (v := .bool false) (by simp [go_sem]) (by simp [go_sem])
    have f1 := hx.frozen (p := ⟨w.heap.size, 1, none⟩) (v := .int .i64 0) (by simp [go_sem]) (by simp [go_sem])
    by_cases hlt : k < n
    · go_wp2
      go_loopw [8, 10] (fun i t wi => ∃ q : Nat, k ≤ q ∧ q < n ∧ i = .int .i64 q ∧ t = .bool (allm m k q) ∧ Hid (∀ l, k ≤ l → l < q → more l = true) ∧ Ext wr wi) (fun i _ _ => n - (intOf i).toNat)
      case atStart => exact ⟨k, Nat.le_refl _, hlt, rfl, by rw [allm_self], fun l h1 h2 => absurd h1 (by omega), Ext.refl _⟩
      case round =>
        obtain ⟨q, hkq, hq, rfl, rfl, hmr, hx2⟩ := hrel
        have hmo := ((hr.ext hx.new).ext hx2).more q hq
        have HS := hide (allm_succ m k q hkq)
        generalize allm m k q = bq at *
        have hq0 : ¬ (q : Int) + 1 - 1 < 0 := by omega
        by_cases hend : more q = false ∨ q + 1 = n
        · have hfw := ((hr.ext hx.new).ext hx2).fwd k hlt
          have hqb : more q = true → ((q : Int) + 1 == (n : Int)) = true := by
            intro hm1
            rcases hend with he | he
            · rw [he] at hm1; cases hm1
            · rw [beq_iff_eq]; omega
          have Hend := hide hend
          clear hend
          have d0 := hx2.cell c0
          have d1 := hx2.cell c1
          have g0 := hx2.frozen c0 f0
          have g1 := hx2.frozen c1 f1
          clear c0 c1 f0 f1
          cases bq
          · cases hmq : more q
            all_goals
              rw [hmq] at hmo
              simp only [hmq, forall_const, Bool.false_eq_true, false_implies] at hqb
              go_wp2
              go_roundw
              case rel => exact ⟨q + 1, by omega, by go_num, hx.trans hx2, (chain_next hq hkq hmr.out Hend.out hnone.out HS.out).1, (chain_next hq hkq hmr.out Hend.out hnone.out HS.out).2⟩
              case measure => simp [intOf]; omega
          · have hcall := hide (hm.out q hq _ (hx.new.trans hx2))
            cases hmv : m q
            all_goals
              rw [hmv] at hcall
              have Hmv := hide hmv
              clear hmv
              cases hmq : more q
              all_goals
                rw [hmq] at hmo
                simp only [hmq, forall_const, Bool.false_eq_true, false_implies] at hqb
                go_wp2_with (go_at_call 19; refine hcall.out.mono ?_; rintro e w' ⟨rfl, hx3⟩; have hmo' := hx3.cell hmo; have hfw' := hx3.cell hfw; have e0 := hx3.cell d0; have e1 := hx3.cell d1; have i0 := hx3.frozen d0 g0; have i1 := hx3.frozen d1 g1; clear hmo hfw d0 d1 g0 g1)
            iterate 2
              go_roundw
              case rel => exact ⟨q + 1, by omega, by go_num, hx.trans (hx2.trans hx3), (chain_next hq hkq hmr.out Hend.out hnone.out (by rw [HS.out, Hmv.out]; rfl)).1, (chain_next hq hkq hmr.out Hend.out hnone.out (by rw [HS.out, Hmv.out]; rfl)).2⟩
              case measure => simp [intOf]; omega
            all_goals
              exact bodyPost_ret (v := .agg #[.bool (fwd k), .int .i64 ((k + 1 : Nat) : Int)]) (by simp [results, Tryd.results15, go_sem, e0, e1]) rfl ⟨_, k + 1, rfl, chain_hit hq hkq hmr.out Hend.out hnone.out hh.out (by rw [HS.out, Hmv.out]; rfl), ((hx.new.trans (hx2.trans hx3)).setCell (by simp) _).setCell (by simp) _⟩
        · have hm1 : more q = true := by cases hmq : more q <;> simp_all
          have hqn : q + 1 < n := by omega
          have hqb : ((q : Int) + 1 == (n : Int)) = false := by rw [beq_eq_false_iff_ne]; omega
          rw [hm1] at hmo
          have Hm1 := hide hm1
          clear hm1 hend
          have HL : Hid (∀ l, k ≤ l → l < q + 1 → more l = true) := fun l h1 h2 => by
            by_cases e : l = q
            · subst e; exact Hm1.out
            · exact hmr.out l h1 (by omega)
          cases bq
          · go_wp2
            go_roundw
            case rel => exact ⟨q + 1, by omega, hqn, by go_num, by rw [HS.out]; rfl, HL, hx2⟩
            case measure => simp [intOf]; omega
          · have hcall := hide (hm.out q hq _ (hx.new.trans hx2))
            generalize m q = mq at *
            go_wp2_with (go_at_call 19; refine hcall.out.mono ?_; rintro e w' ⟨rfl, hx3⟩; have hmo' := hx3.cell hmo)
            go_roundw
            case rel => exact ⟨q + 1, by omega, hqn, by go_num, by rw [HS.out]; rfl, HL, hx2.trans hx3⟩
            case measure => simp [intOf]; omega
    · have hkn : k = n := by omega
      have hun := hide (unmatched_any fb d n cap _ wr hd hn (hx.cell ((Ext.refl w).alloc _ |>.cell h)))
      go_wp2_with (go_at_call 20; refine hun.out.mono ?_; rintro e w' ⟨rfl, rfl⟩)
      exact bodyPost_ret (v := .agg #[.bool (decide (n = 0)), .int .i64 ((0 : Nat) : Int)]) (by simp [results, Tryd.results15, go_sem, c0, c1]) rfl ⟨_, 0, rfl, dec_none hkn hnone.out, (hx.new.setCell (by simp) _).setCell (by simp) _⟩
end Go.Proofs.Qxb6609285aDoor
