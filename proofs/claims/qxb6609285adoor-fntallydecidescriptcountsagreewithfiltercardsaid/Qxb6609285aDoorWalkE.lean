import Derived.Test.Qxb6609285aDoorWalkD
import Derived.Lib.Builder
import Derived.Test.Qxb6609285aDoorOrders
namespace Go.Proofs.Qxb6609285aDoor
open Go.RowKit Go.Proofs
set_option linter.unusedVariables false
set_option linter.unusedSimpArgs false

theorem info63 : (Tryd.prog.info? 63).map (fun i => (i.zero, i.size, i.bytes)) = some (some (.agg #[.int .u8 0, .bool false, .bool false, .int .u32 0, .int .u8 0, .int .u32 0, .int .u8 0, .int .u8 0, .int .u8 0, .int .u16 0, .int .u8 0, .int .u16 0, .bool false, .int .u16 0, .slice none 0 0, .slice none 0 0, .bool false, .bool false]), 18, 96) := by kernel_rfl

/-- What is laid in a new block lies there. -/
theorem cells_new (w w1 : World) (vs : List Value) (t : TypeId) (hx : Ext (w.alloc (.cells vs.toArray t)) w1) : CellsAt w1 w.heap.size 0 vs := by
  intro i v hv
  refine hx.cell ?_
  rw [Nat.zero_add, World.cell?_alloc_at _ _ _ _ rfl]
  simpa using hv

theorem Ext.grownBy {w w1 : World} (h : Ext w w1) (row : Option Nat) : w.grownBy w1 row := ⟨h.os, h.tape, h.output, h.size, fun k hk _ => h.block k hk⟩
theorem Ext.owns {w w1 : World} (h : Ext w w1) {base : Nat} {e : TypeId} {size : Nat} {v : Value} {n : Nat} {xs : List Value} (ho : w.ownsRow base e size v n xs) : w1.ownsRow base e size v n xs := by
  refine ho.kept (h.grownBy none) ?_
  cases v.ownBlock <;> simp

theorem owns_of_heap {w W : World} {base : Nat} {e : TypeId} {size : Nat} {v : Value} {n : Nat} {xs : List Value} (ho : w.ownsRow base e size v n xs) (h : W.heap = w.heap) : W.ownsRow base e size v n xs := by
  unfold World.ownsRow at *
  rw [h]
  exact ho
theorem far_block {w1 W w3 : World} {o : Obj} {row : Option Nat} {b : Nat} (hg : W.grownBy w3 row) (e : W.heap = (w1.alloc o).heap) (hlt : b < w1.heap.size) (hr : some b ≠ row) : w3.heap[b]? = w1.heap[b]? := by
  rw [hg.block b (by rw [e]; simp; omega) hr, e]
  exact Below.heap_alloc w1 o b hlt
theorem Ext.grown {w w1 w3 : World} {row : Option Nat} (h : Ext w w1) (k : w1.grownBy w3 row) : w.grownBy w3 row :=
  ⟨k.os.trans h.os, k.tape.trans h.tape, k.output.trans h.output, Nat.le_trans h.size k.size, fun i hi hr => (k.block i (Nat.lt_of_lt_of_le hi h.size) hr).trans (h.block i hi)⟩
theorem grown_of_heap {w W w3 : World} {row : Option Nat} (h : W.grownBy w3 row) (e1 : W.heap = w.heap) (e2 : W.os = w.os) (e3 : W.tape = w.tape) (e4 : W.output = w.output) : w.grownBy w3 row :=
  ⟨h.os.trans e2, h.tape.trans e3, h.output.trans e4, e1 ▸ h.size, fun k hk hr => (h.block k (by rw [e1]; exact hk) hr).trans (by rw [e1])⟩
theorem World.grownBy.pre_alloc {w w3 : World} {o : Obj} {row : Option Nat} (h : (w.alloc o).grownBy w3 row) : w.grownBy w3 row :=
  ((Ext.refl w).alloc o).grown h
theorem grown_both {w w3 : World} {row : Option Nat} (h : w.grownBy w3 row) (a : Addr) (v : Value) : (w.setCell a v).grownBy (w3.setCell a v) row := by
  refine ⟨h.os, h.tape, h.output, by simpa [World.setCell] using h.size, fun k hk hr => ?_⟩
  have hk' : k < w.heap.size := by simpa [World.setCell] using hk
  simp only [World.setCell, Array.getElem?_modify]
  rw [h.block k hk' hr]
set_option maxRecDepth 100000 in
set_option maxHeartbeats 2000000 in
/-- Add of a rule that passes Check, where there is room. -/
theorem add_ok (fb d n cap base : Nat) (sa : Option Addr) (xs : List Value) (c1 c2 c3 c4 c5 c6 c7 c8 c9 c10 c11 c12 c13 c14 c15 c16 c17 : Value) (w : World) (hd : d < 2) (hn : n < 12)
    (hone : ∀ u ∈ ([.int .u8 (d : Nat), c1, c2, c3, c4, c5, c6, c7, c8, c9, c10, c11, c12, c13, c14, c15, c16, c17] : List Value), u.oneCell' = true)
    (hf : w.cell? ⟨fb, d, none⟩ = some (.slice sa n cap)) (hz : w.frozen? ⟨fb, d, none⟩ = false) (hfb : fb < base) (hbase : base ≤ w.heap.size) (hown : w.ownsRow base 63 18 (.slice sa n cap) n xs)
    (hck : Hid (∀ rb w1, CellsAt w1 rb 0 [.int .u8 (d : Nat), c1, c2, c3, c4, c5, c6, c7, c8, c9, c10, c11, c12, c13, c14, c15, c16, c17] → Calls Tryd.prog 21 #[.pointer (some ⟨rb, 0, none⟩)] w1 fun e w' => e = .returned .nilIface ∧ Ext w1 w')) :
    Calls Tryd.prog 16 #[.pointer (some ⟨fb, 0, none⟩), .agg #[.int .u8 (d : Nat), c1, c2, c3, c4, c5, c6, c7, c8, c9, c10, c11, c12, c13, c14, c15, c16, c17]] w fun e w' => e = .returned .nilIface ∧
      ∃ g cap', w'.ownsRow base 63 18 (.slice (some ⟨g, 0, none⟩) (n + 1) cap') (n + 1) (xs ++ [.int .u8 (d : Nat), c1, c2, c3, c4, c5, c6, c7, c8, c9, c10, c11, c12, c13, c14, c15, c16, c17]) ∧ (w.setCell ⟨fb, d, none⟩ (.slice (some ⟨g, 0, none⟩) (n + 1) cap')).grownBy w' (Value.slice sa n cap).ownBlock ∧ g < w'.heap.size := by
  obtain ⟨i0, hi, hz0, hz1, hz2⟩ := info_parts info63
  go_enter Tryd.func16, Tryd.ntmps16
  go_wp2_with (go_at_call 21; refine (hck.out _ _ (cells_new w _ [.int .u8 (d : Nat), c1, c2, c3, c4, c5, c6, c7, c8, c9, c10, c11, c12, c13, c14, c15, c16, c17] 63 (Ext.refl _))).mono ?_; rintro e w1 ⟨rfl, hx⟩)
  have hN : w.heap.size < w1.heap.size := by have := hx.size; simp at this; omega
  have hfb1 : fb < w1.heap.size := by omega
  have hf1 := hx.new.cell hf
  have hz1' := hx.new.frozen hf hz
  have hcs := cells_new w w1 [.int .u8 (d : Nat), c1, c2, c3, c4, c5, c6, c7, c8, c9, c10, c11, c12, c13, c14, c15, c16, c17] 63 hx
  have hown1 := hx.new.owns hown
  have r0 := hcs 0 _ rfl
  have r1 := hcs 1 _ rfl
  have r2 := hcs 2 _ rfl
  have r3 := hcs 3 _ rfl
  have r4 := hcs 4 _ rfl
  have r5 := hcs 5 _ rfl
  have r6 := hcs 6 _ rfl
  have r7 := hcs 7 _ rfl
  have r8 := hcs 8 _ rfl
  have r9 := hcs 9 _ rfl
  have r10 := hcs 10 _ rfl
  have r11 := hcs 11 _ rfl
  have r12 := hcs 12 _ rfl
  have r13 := hcs 13 _ rfl
  have r14 := hcs 14 _ rfl
  have r15 := hcs 15 _ rfl
  have r16 := hcs 16 _ rfl
  have r17 := hcs 17 _ rfl
  simp only [Nat.zero_add] at r0 r1 r2 r3 r4 r5 r6 r7 r8 r9 r10 r11 r12 r13 r14 r15 r16 r17
  have hnb : ((n : Int) == 12) = false := by rw [beq_eq_false_iff_ne]; omega
  have hdi : (d : Int) < 2 := by omega
  have Hown := hide hown1
  have Hone := hide hone
  have Hcs := hide hcs
  have HX := hide hx.new
  have hrow : some fb ≠ (Value.slice sa n cap).ownBlock := fun e => by have := (hown.lt fb e.symm).1; omega
  have hrowN : some w.heap.size ≠ (Value.slice sa n cap).ownBlock := fun e => by have := (hown.lt _ e.symm).2; omega
  have Hrow := hide hrow
  have HrowN := hide hrowN
  have hne : ¬ fb = w.heap.size := by omega
  have SK : Hid (∀ w' : World, (∀ i, w'.cell? ⟨w.heap.size, i, none⟩ = w1.cell? ⟨w.heap.size, i, none⟩) → (w'.cell? ⟨w.heap.size, 0, none⟩ = some (.int .u8 (d : Nat)) ∧ w'.cell? ⟨w.heap.size, 1, none⟩ = some c1 ∧ w'.cell? ⟨w.heap.size, 2, none⟩ = some c2 ∧ w'.cell? ⟨w.heap.size, 3, none⟩ = some c3 ∧ w'.cell? ⟨w.heap.size, 4, none⟩ = some c4 ∧ w'.cell? ⟨w.heap.size, 5, none⟩ = some c5 ∧ w'.cell? ⟨w.heap.size, 6, none⟩ = some c6 ∧ w'.cell? ⟨w.heap.size, 7, none⟩ = some c7 ∧ w'.cell? ⟨w.heap.size, 8, none⟩ = some c8 ∧ w'.cell? ⟨w.heap.size, 9, none⟩ = some c9 ∧ w'.cell? ⟨w.heap.size, 10, none⟩ = some c10 ∧ w'.cell? ⟨w.heap.size, 11, none⟩ = some c11 ∧ w'.cell? ⟨w.heap.size, 12, none⟩ = some c12 ∧ w'.cell? ⟨w.heap.size, 13, none⟩ = some c13 ∧ w'.cell? ⟨w.heap.size, 14, none⟩ = some c14 ∧ w'.cell? ⟨w.heap.size, 15, none⟩ = some c15 ∧ w'.cell? ⟨w.heap.size, 16, none⟩ = some c16 ∧ w'.cell? ⟨w.heap.size, 17, none⟩ = some c17)) := by
    intro w' hw'
    simp only [hw', r0, r1, r2, r3, r4, r5, r6, r7, r8, r9, r10, r11, r12, r13, r14, r15, r16, r17, and_self]
  clear hown hown1 hone hcs hx hck hrow hrowN
  go_quiet (fail)
  go_wp2
  replace r0 : (w1.drewN nq).cell? _ = _ := r0
  replace r1 : (w1.drewN nq).cell? _ = _ := r1
  replace r2 : (w1.drewN nq).cell? _ = _ := r2
  replace r3 : (w1.drewN nq).cell? _ = _ := r3
  replace r4 : (w1.drewN nq).cell? _ = _ := r4
  replace r5 : (w1.drewN nq).cell? _ = _ := r5
  replace r6 : (w1.drewN nq).cell? _ = _ := r6
  replace r7 : (w1.drewN nq).cell? _ = _ := r7
  replace r8 : (w1.drewN nq).cell? _ = _ := r8
  replace r9 : (w1.drewN nq).cell? _ = _ := r9
  replace r10 : (w1.drewN nq).cell? _ = _ := r10
  replace r11 : (w1.drewN nq).cell? _ = _ := r11
  replace r12 : (w1.drewN nq).cell? _ = _ := r12
  replace r13 : (w1.drewN nq).cell? _ = _ := r13
  replace r14 : (w1.drewN nq).cell? _ = _ := r14
  replace r15 : (w1.drewN nq).cell? _ = _ := r15
  replace r16 : (w1.drewN nq).cell? _ = _ := r16
  replace r17 : (w1.drewN nq).cell? _ = _ := r17
  replace hf1 : (w1.drewN nq).cell? ⟨fb, d, none⟩ = _ := hf1
  replace hz1' : (w1.drewN nq).frozen? ⟨fb, d, none⟩ = _ := hz1'
  replace hN : w.heap.size < (w1.drewN nq).heap.size := hN
  replace hfb1 : fb < (w1.drewN nq).heap.size := hfb1
  replace Hown : Hid ((w1.drewN nq).ownsRow base 63 18 (.slice sa n cap) n xs) := owns_of_heap Hown.out rfl
  replace HX : Hid (Ext w (w1.drewN nq)) := HX.out.drewN nq
  clear SK Hcs
  generalize w1.drewN nq = w2 at *
  have HS : Hid (w2.drew.cell? ⟨w.heap.size, 0, none⟩ = some (.int .u8 (d : Nat)) ∧ w2.drew.cell? ⟨w.heap.size, 1, none⟩ = some c1 ∧ w2.drew.cell? ⟨w.heap.size, 2, none⟩ = some c2 ∧ w2.drew.cell? ⟨w.heap.size, 3, none⟩ = some c3 ∧ w2.drew.cell? ⟨w.heap.size, 4, none⟩ = some c4 ∧ w2.drew.cell? ⟨w.heap.size, 5, none⟩ = some c5 ∧ w2.drew.cell? ⟨w.heap.size, 6, none⟩ = some c6 ∧ w2.drew.cell? ⟨w.heap.size, 7, none⟩ = some c7 ∧ w2.drew.cell? ⟨w.heap.size, 8, none⟩ = some c8 ∧ w2.drew.cell? ⟨w.heap.size, 9, none⟩ = some c9 ∧ w2.drew.cell? ⟨w.heap.size, 10, none⟩ = some c10 ∧ w2.drew.cell? ⟨w.heap.size, 11, none⟩ = some c11 ∧ w2.drew.cell? ⟨w.heap.size, 12, none⟩ = some c12 ∧ w2.drew.cell? ⟨w.heap.size, 13, none⟩ = some c13 ∧ w2.drew.cell? ⟨w.heap.size, 14, none⟩ = some c14 ∧ w2.drew.cell? ⟨w.heap.size, 15, none⟩ = some c15 ∧ w2.drew.cell? ⟨w.heap.size, 16, none⟩ = some c16 ∧ w2.drew.cell? ⟨w.heap.size, 17, none⟩ = some c17 ∧ w2.drew.cell? ⟨fb, d, none⟩ = some (.slice sa n cap)) := ⟨r0, r1, r2, r3, r4, r5, r6, r7, r8, r9, r10, r11, r12, r13, r14, r15, r16, r17, hf1⟩
  refine wp_region_last (fun w' : World => w'.cell? ⟨w.heap.size, 0, none⟩ = some (.int .u8 (d : Nat)) ∧ w'.cell? ⟨w.heap.size, 1, none⟩ = some c1 ∧ w'.cell? ⟨w.heap.size, 2, none⟩ = some c2 ∧ w'.cell? ⟨w.heap.size, 3, none⟩ = some c3 ∧ w'.cell? ⟨w.heap.size, 4, none⟩ = some c4 ∧ w'.cell? ⟨w.heap.size, 5, none⟩ = some c5 ∧ w'.cell? ⟨w.heap.size, 6, none⟩ = some c6 ∧ w'.cell? ⟨w.heap.size, 7, none⟩ = some c7 ∧ w'.cell? ⟨w.heap.size, 8, none⟩ = some c8 ∧ w'.cell? ⟨w.heap.size, 9, none⟩ = some c9 ∧ w'.cell? ⟨w.heap.size, 10, none⟩ = some c10 ∧ w'.cell? ⟨w.heap.size, 11, none⟩ = some c11 ∧ w'.cell? ⟨w.heap.size, 12, none⟩ = some c12 ∧ w'.cell? ⟨w.heap.size, 13, none⟩ = some c13 ∧ w'.cell? ⟨w.heap.size, 14, none⟩ = some c14 ∧ w'.cell? ⟨w.heap.size, 15, none⟩ = some c15 ∧ w'.cell? ⟨w.heap.size, 16, none⟩ = some c16 ∧ w'.cell? ⟨w.heap.size, 17, none⟩ = some c17 ∧ w'.cell? ⟨fb, d, none⟩ = some (.slice sa n cap)) 16 (by kernel_rfl) ?_
  refine wpAnyL_takeW 0 (by kernel_rfl) (by kernel_rfl) (by kernel_rfl) (by kernel_rfl) HS.out ?_
  intro oi hoi
  simp only [List.getElem?_toArray, List.getElem?_cons_succ, List.getElem?_cons_zero, Option.some.injEq] at hoi
  subst hoi
  refine ⟨.pointer (some ⟨fb, 0, none⟩), fun _ _ _ h => h, rfl, (by intro w; go_simp), ?_⟩
  simp only [Act.put, List.setIfInBounds_toArray, List.set_cons_zero, List.set_cons_succ]
  refine wpAnyL_takeW 1 (by kernel_rfl) (by kernel_rfl) (by kernel_rfl) (by kernel_rfl) HS.out ?_
  intro oi hoi
  simp only [List.getElem?_toArray, List.getElem?_cons_succ, List.getElem?_cons_zero, Option.some.injEq] at hoi
  subst hoi
  refine ⟨.pointer (some ⟨w.heap.size, 0, none⟩), fun _ _ _ h => h, rfl, (by intro w; go_simp), ?_⟩
  simp only [Act.put, List.setIfInBounds_toArray, List.set_cons_zero, List.set_cons_succ]
  refine wpAnyL_takeS 2 (by kernel_rfl) (by kernel_rfl) (by kernel_rfl) (by kernel_rfl) HS.out ?_
  intro oi hoi
  simp only [List.getElem?_toArray, List.getElem?_cons_succ, List.getElem?_cons_zero, Option.some.injEq] at hoi
  subst hoi
  refine ⟨.int .u8 (d : Nat), fun _ _ _ h => h, rfl, (by intro w hSw; go_simp), ?_⟩
  simp only [Act.put, List.setIfInBounds_toArray, List.set_cons_zero, List.set_cons_succ]
  refine wpAnyL_takeW 3 (by kernel_rfl) (by kernel_rfl) (by kernel_rfl) (by kernel_rfl) HS.out ?_
  intro oi hoi
  simp only [List.getElem?_toArray, List.getElem?_cons_succ, List.getElem?_cons_zero, Option.some.injEq] at hoi
  subst hoi
  refine ⟨.pointer (some ⟨fb, 0, none⟩), fun _ _ _ h => h, rfl, (by intro w; go_simp), ?_⟩
  simp only [Act.put, List.setIfInBounds_toArray, List.set_cons_zero, List.set_cons_succ]
  refine wpAnyL_takeW 4 (by kernel_rfl) (by kernel_rfl) (by kernel_rfl) (by kernel_rfl) HS.out ?_
  intro oi hoi
  simp only [List.getElem?_toArray, List.getElem?_cons_succ, List.getElem?_cons_zero, Option.some.injEq] at hoi
  subst hoi
  refine ⟨.pointer (some ⟨w.heap.size, 0, none⟩), fun _ _ _ h => h, rfl, (by intro w; go_simp), ?_⟩
  simp only [Act.put, List.setIfInBounds_toArray, List.set_cons_zero, List.set_cons_succ]
  refine wpAnyL_takeS 5 (by kernel_rfl) (by kernel_rfl) (by kernel_rfl) (by kernel_rfl) HS.out ?_
  intro oi hoi
  simp only [List.getElem?_toArray, List.getElem?_cons_succ, List.getElem?_cons_zero, Option.some.injEq] at hoi
  subst hoi
  refine ⟨.int .u8 (d : Nat), fun _ _ _ h => h, rfl, (by intro w hSw; go_simp), ?_⟩
  simp only [Act.put, List.setIfInBounds_toArray, List.set_cons_zero, List.set_cons_succ]
  refine wpAnyL_takeW 6 (by kernel_rfl) (by kernel_rfl) (by kernel_rfl) (by kernel_rfl) HS.out ?_
  intro oi hoi
  simp only [List.getElem?_toArray, List.getElem?_cons_succ, List.getElem?_cons_zero, Option.some.injEq] at hoi
  subst hoi
  refine ⟨.pointer (some ⟨fb, 0, none⟩), fun _ _ _ h => h, rfl, (by intro w; go_simp), ?_⟩
  simp only [Act.put, List.setIfInBounds_toArray, List.set_cons_zero, List.set_cons_succ]
  refine wpAnyL_takeW 7 (by kernel_rfl) (by kernel_rfl) (by kernel_rfl) (by kernel_rfl) HS.out ?_
  intro oi hoi
  simp only [List.getElem?_toArray, List.getElem?_cons_succ, List.getElem?_cons_zero, Option.some.injEq] at hoi
  subst hoi
  refine ⟨.pointer (some ⟨fb, 0, none⟩), fun _ _ _ h => h, rfl, (by intro w; go_simp), ?_⟩
  simp only [Act.put, List.setIfInBounds_toArray, List.set_cons_zero, List.set_cons_succ]
  refine wpAnyL_takeW 8 (by kernel_rfl) (by kernel_rfl) (by kernel_rfl) (by kernel_rfl) HS.out ?_
  intro oi hoi
  simp only [List.getElem?_toArray, List.getElem?_cons_succ, List.getElem?_cons_zero, Option.some.injEq] at hoi
  subst hoi
  refine ⟨.pointer (some ⟨fb, d, none⟩), fun _ _ _ h => h, rfl, (by intro w; go_simp), ?_⟩
  simp only [Act.put, List.setIfInBounds_toArray, List.set_cons_zero, List.set_cons_succ]
  refine wpAnyL_takeS 9 (by kernel_rfl) (by kernel_rfl) (by kernel_rfl) (by kernel_rfl) HS.out ?_
  intro oi hoi
  simp only [List.getElem?_toArray, List.getElem?_cons_succ, List.getElem?_cons_zero, Option.some.injEq] at hoi
  subst hoi
  refine ⟨.slice sa n cap, fun _ _ _ h => h, rfl, (by intro w hSw; go_simp), ?_⟩
  simp only [Act.put, List.setIfInBounds_toArray, List.set_cons_zero, List.set_cons_succ]
  refine wpAnyL_takeS 10 (by kernel_rfl) (by kernel_rfl) (by kernel_rfl) (by kernel_rfl) HS.out ?_
  intro oi hoi
  simp only [List.getElem?_toArray, List.getElem?_cons_succ, List.getElem?_cons_zero, Option.some.injEq] at hoi
  subst hoi
  refine ⟨.agg #[.int .u8 (d : Nat), c1, c2, c3, c4, c5, c6, c7, c8, c9, c10, c11, c12, c13, c14, c15, c16, c17], fun _ _ _ h => h, rfl, (by intro w hSw; go_simp), ?_⟩
  simp only [Act.put, List.setIfInBounds_toArray, List.set_cons_zero, List.set_cons_succ]
  refine wpAnyL_takeW 13 (by kernel_rfl) (by kernel_rfl) (by kernel_rfl) (by kernel_rfl) HS.out ?_
  intro oi hoi
  simp only [List.getElem?_toArray, List.getElem?_cons_succ, List.getElem?_cons_zero, Option.some.injEq] at hoi
  subst hoi
  refine ⟨.pointer (some ⟨fb, 0, none⟩), fun _ _ _ h => h, rfl, (by intro w; go_simp), ?_⟩
  simp only [Act.put, List.setIfInBounds_toArray, List.set_cons_zero, List.set_cons_succ]
  refine wpAnyL_takeW 14 (by kernel_rfl) (by kernel_rfl) (by kernel_rfl) (by kernel_rfl) HS.out ?_
  intro oi hoi
  simp only [List.getElem?_toArray, List.getElem?_cons_succ, List.getElem?_cons_zero, Option.some.injEq] at hoi
  subst hoi
  refine ⟨.pointer (some ⟨fb, 0, none⟩), fun _ _ _ h => h, rfl, (by intro w; go_simp), ?_⟩
  simp only [Act.put, List.setIfInBounds_toArray, List.set_cons_zero, List.set_cons_succ]
  refine wpAnyL_one 11 (by kernel_rfl) ?_
  intro o ho
  simp only [List.getElem?_toArray, List.getElem?_cons_succ, List.getElem?_cons_zero, Option.some.injEq] at ho
  subst ho
  intro K hK
  go_simp
  have HS1 : Hid (((w2.alloc (.cells #[.int .u8 (d : Nat), c1, c2, c3, c4, c5, c6, c7, c8, c9, c10, c11, c12, c13, c14, c15, c16, c17] 63)).drew).cell? ⟨w.heap.size, 0, none⟩ = some (.int .u8 (d : Nat)) ∧ ((w2.alloc (.cells #[.int .u8 (d : Nat), c1, c2, c3, c4, c5, c6, c7, c8, c9, c10, c11, c12, c13, c14, c15, c16, c17] 63)).drew).cell? ⟨w.heap.size, 1, none⟩ = some c1 ∧ ((w2.alloc (.cells #[.int .u8 (d : Nat), c1, c2, c3, c4, c5, c6, c7, c8, c9, c10, c11, c12, c13, c14, c15, c16, c17] 63)).drew).cell? ⟨w.heap.size, 2, none⟩ = some c2 ∧ ((w2.alloc (.cells #[.int .u8 (d : Nat), c1, c2, c3, c4, c5, c6, c7, c8, c9, c10, c11, c12, c13, c14, c15, c16, c17] 63)).drew).cell? ⟨w.heap.size, 3, none⟩ = some c3 ∧ ((w2.alloc (.cells #[.int .u8 (d : Nat), c1, c2, c3, c4, c5, c6, c7, c8, c9, c10, c11, c12, c13, c14, c15, c16, c17] 63)).drew).cell? ⟨w.heap.size, 4, none⟩ = some c4 ∧ ((w2.alloc (.cells #[.int .u8 (d : Nat), c1, c2, c3, c4, c5, c6, c7, c8, c9, c10, c11, c12, c13, c14, c15, c16, c17] 63)).drew).cell? ⟨w.heap.size, 5, none⟩ = some c5 ∧ ((w2.alloc (.cells #[.int .u8 (d : Nat), c1, c2, c3, c4, c5, c6, c7, c8, c9, c10, c11, c12, c13, c14, c15, c16, c17] 63)).drew).cell? ⟨w.heap.size, 6, none⟩ = some c6 ∧ ((w2.alloc (.cells #[.int .u8 (d : Nat), c1, c2, c3, c4, c5, c6, c7, c8, c9, c10, c11, c12, c13, c14, c15, c16, c17] 63)).drew).cell? ⟨w.heap.size, 7, none⟩ = some c7 ∧ ((w2.alloc (.cells #[.int .u8 (d : Nat), c1, c2, c3, c4, c5, c6, c7, c8, c9, c10, c11, c12, c13, c14, c15, c16, c17] 63)).drew).cell? ⟨w.heap.size, 8, none⟩ = some c8 ∧ ((w2.alloc (.cells #[.int .u8 (d : Nat), c1, c2, c3, c4, c5, c6, c7, c8, c9, c10, c11, c12, c13, c14, c15, c16, c17] 63)).drew).cell? ⟨w.heap.size, 9, none⟩ = some c9 ∧ ((w2.alloc (.cells #[.int .u8 (d : Nat), c1, c2, c3, c4, c5, c6, c7, c8, c9, c10, c11, c12, c13, c14, c15, c16, c17] 63)).drew).cell? ⟨w.heap.size, 10, none⟩ = some c10 ∧ ((w2.alloc (.cells #[.int .u8 (d : Nat), c1, c2, c3, c4, c5, c6, c7, c8, c9, c10, c11, c12, c13, c14, c15, c16, c17] 63)).drew).cell? ⟨w.heap.size, 11, none⟩ = some c11 ∧ ((w2.alloc (.cells #[.int .u8 (d : Nat), c1, c2, c3, c4, c5, c6, c7, c8, c9, c10, c11, c12, c13, c14, c15, c16, c17] 63)).drew).cell? ⟨w.heap.size, 12, none⟩ = some c12 ∧ ((w2.alloc (.cells #[.int .u8 (d : Nat), c1, c2, c3, c4, c5, c6, c7, c8, c9, c10, c11, c12, c13, c14, c15, c16, c17] 63)).drew).cell? ⟨w.heap.size, 13, none⟩ = some c13 ∧ ((w2.alloc (.cells #[.int .u8 (d : Nat), c1, c2, c3, c4, c5, c6, c7, c8, c9, c10, c11, c12, c13, c14, c15, c16, c17] 63)).drew).cell? ⟨w.heap.size, 14, none⟩ = some c14 ∧ ((w2.alloc (.cells #[.int .u8 (d : Nat), c1, c2, c3, c4, c5, c6, c7, c8, c9, c10, c11, c12, c13, c14, c15, c16, c17] 63)).drew).cell? ⟨w.heap.size, 15, none⟩ = some c15 ∧ ((w2.alloc (.cells #[.int .u8 (d : Nat), c1, c2, c3, c4, c5, c6, c7, c8, c9, c10, c11, c12, c13, c14, c15, c16, c17] 63)).drew).cell? ⟨w.heap.size, 16, none⟩ = some c16 ∧ ((w2.alloc (.cells #[.int .u8 (d : Nat), c1, c2, c3, c4, c5, c6, c7, c8, c9, c10, c11, c12, c13, c14, c15, c16, c17] 63)).drew).cell? ⟨w.heap.size, 17, none⟩ = some c17 ∧ ((w2.alloc (.cells #[.int .u8 (d : Nat), c1, c2, c3, c4, c5, c6, c7, c8, c9, c10, c11, c12, c13, c14, c15, c16, c17] 63)).drew).cell? ⟨fb, d, none⟩ = some (.slice sa n cap)) := ⟨(World.cell?_alloc_past _ _ _ hN).trans r0, (World.cell?_alloc_past _ _ _ hN).trans r1, (World.cell?_alloc_past _ _ _ hN).trans r2, (World.cell?_alloc_past _ _ _ hN).trans r3, (World.cell?_alloc_past _ _ _ hN).trans r4, (World.cell?_alloc_past _ _ _ hN).trans r5, (World.cell?_alloc_past _ _ _ hN).trans r6, (World.cell?_alloc_past _ _ _ hN).trans r7, (World.cell?_alloc_past _ _ _ hN).trans r8, (World.cell?_alloc_past _ _ _ hN).trans r9, (World.cell?_alloc_past _ _ _ hN).trans r10, (World.cell?_alloc_past _ _ _ hN).trans r11, (World.cell?_alloc_past _ _ _ hN).trans r12, (World.cell?_alloc_past _ _ _ hN).trans r13, (World.cell?_alloc_past _ _ _ hN).trans r14, (World.cell?_alloc_past _ _ _ hN).trans r15, (World.cell?_alloc_past _ _ _ hN).trans r16, (World.cell?_alloc_past _ _ _ hN).trans r17, (World.cell?_alloc_past _ _ _ hfb1).trans hf1⟩
  refine hK _ _ ⟨fun _ => HS1.out, ?_⟩
  clear hK K
  refine wpAnyL_one 12 (by kernel_rfl) ?_
  intro o ho
  simp only [List.getElem?_toArray, List.getElem?_cons_succ, List.getElem?_cons_zero, Option.some.injEq] at ho
  subst ho
  intro K hK
  refine step_append_lies _ rfl (.tmp 37) (.tmp 39) 50 rfl base 63 i0 _ 18 96 Tryd.underlying50 hi hz0 hz1 hz2 rfl (by decide) (.slice sa n cap) n xs rfl (owns_of_heap (Hown.out.alloc (.cells #[.int .u8 (d : Nat), c1, c2, c3, c4, c5, c6, c7, c8, c9, c10, c11, c12, c13, c14, c15, c16, c17] 63)) rfl) ⟨w2.heap.size, 0, none⟩ 1 1 [.int .u8 (d : Nat), c1, c2, c3, c4, c5, c6, c7, c8, c9, c10, c11, c12, c13, c14, c15, c16, c17] rfl rfl (World.news_of_block (cs := #[.int .u8 (d : Nat), c1, c2, c3, c4, c5, c6, c7, c8, c9, c10, c11, c12, c13, c14, c15, c16, c17]) (t := 63) (fr := (0, 0)) (heap_alloc_new w2 _)) Hone.out (by decide) (by unfold maxLen; omega) (by omega) (by simp; omega) (w2.heap.size + 1) (by simp) ?_
  intro g cap' w3 hown3 hgrow hat hlt
  have qb := far_block hgrow rfl hfb1 Hrow.out
  have qn := far_block hgrow rfl hN HrowN.out
  have q1 := (World.cell?_of_block (a := ⟨fb, d, none⟩) qb).trans hf1
  have q2 := (World.frozen?_of_block (a := ⟨fb, d, none⟩) qb).trans hz1'
  have HS2 : Hid (w3.cell? ⟨w.heap.size, 0, none⟩ = some (.int .u8 (d : Nat)) ∧ w3.cell? ⟨w.heap.size, 1, none⟩ = some c1 ∧ w3.cell? ⟨w.heap.size, 2, none⟩ = some c2 ∧ w3.cell? ⟨w.heap.size, 3, none⟩ = some c3 ∧ w3.cell? ⟨w.heap.size, 4, none⟩ = some c4 ∧ w3.cell? ⟨w.heap.size, 5, none⟩ = some c5 ∧ w3.cell? ⟨w.heap.size, 6, none⟩ = some c6 ∧ w3.cell? ⟨w.heap.size, 7, none⟩ = some c7 ∧ w3.cell? ⟨w.heap.size, 8, none⟩ = some c8 ∧ w3.cell? ⟨w.heap.size, 9, none⟩ = some c9 ∧ w3.cell? ⟨w.heap.size, 10, none⟩ = some c10 ∧ w3.cell? ⟨w.heap.size, 11, none⟩ = some c11 ∧ w3.cell? ⟨w.heap.size, 12, none⟩ = some c12 ∧ w3.cell? ⟨w.heap.size, 13, none⟩ = some c13 ∧ w3.cell? ⟨w.heap.size, 14, none⟩ = some c14 ∧ w3.cell? ⟨w.heap.size, 15, none⟩ = some c15 ∧ w3.cell? ⟨w.heap.size, 16, none⟩ = some c16 ∧ w3.cell? ⟨w.heap.size, 17, none⟩ = some c17 ∧ w3.cell? ⟨fb, d, none⟩ = some (.slice sa n cap)) := ⟨(World.cell?_of_block (a := ⟨w.heap.size, 0, none⟩) qn).trans r0, (World.cell?_of_block (a := ⟨w.heap.size, 1, none⟩) qn).trans r1, (World.cell?_of_block (a := ⟨w.heap.size, 2, none⟩) qn).trans r2, (World.cell?_of_block (a := ⟨w.heap.size, 3, none⟩) qn).trans r3, (World.cell?_of_block (a := ⟨w.heap.size, 4, none⟩) qn).trans r4, (World.cell?_of_block (a := ⟨w.heap.size, 5, none⟩) qn).trans r5, (World.cell?_of_block (a := ⟨w.heap.size, 6, none⟩) qn).trans r6, (World.cell?_of_block (a := ⟨w.heap.size, 7, none⟩) qn).trans r7, (World.cell?_of_block (a := ⟨w.heap.size, 8, none⟩) qn).trans r8, (World.cell?_of_block (a := ⟨w.heap.size, 9, none⟩) qn).trans r9, (World.cell?_of_block (a := ⟨w.heap.size, 10, none⟩) qn).trans r10, (World.cell?_of_block (a := ⟨w.heap.size, 11, none⟩) qn).trans r11, (World.cell?_of_block (a := ⟨w.heap.size, 12, none⟩) qn).trans r12, (World.cell?_of_block (a := ⟨w.heap.size, 13, none⟩) qn).trans r13, (World.cell?_of_block (a := ⟨w.heap.size, 14, none⟩) qn).trans r14, (World.cell?_of_block (a := ⟨w.heap.size, 15, none⟩) qn).trans r15, (World.cell?_of_block (a := ⟨w.heap.size, 16, none⟩) qn).trans r16, (World.cell?_of_block (a := ⟨w.heap.size, 17, none⟩) qn).trans r17, q1⟩
  clear qb qn
  refine hK _ _ ⟨fun _ => HS2.out, ?_⟩
  clear hK K
  simp only [Act.put, List.setIfInBounds_toArray, List.set_cons_zero, List.set_cons_succ]
  refine wpAnyL_takeW 15 (by kernel_rfl) (by kernel_rfl) (by kernel_rfl) (by kernel_rfl) HS2.out ?_
  intro oi hoi
  simp only [List.getElem?_toArray, List.getElem?_cons_succ, List.getElem?_cons_zero, Option.some.injEq] at hoi
  subst hoi
  refine ⟨.pointer (some ⟨fb, d, none⟩), fun _ _ _ h => h, rfl, (by intro w; go_simp), ?_⟩
  simp only [Act.put, List.setIfInBounds_toArray, List.set_cons_zero, List.set_cons_succ]
  refine wpAnyL_one 16 (by kernel_rfl) ?_
  intro o ho
  simp only [List.getElem?_toArray, List.getElem?_cons_succ, List.getElem?_cons_zero, Option.some.injEq] at ho
  subst ho
  intro K hK
  go_simp
  refine hK _ _ ⟨fun h => (by exact absurd h (by decide +kernel)), ?_⟩
  clear hK K
  refine wpAnyL_done (by kernel_rfl) ?_ _
  go_wp2
  go_ret
  exact ⟨rfl, g, cap', ownsRow_setCell_below hown3 (by exact hfb) _, grown_both (HX.out.grown ((((Ext.refl w2).alloc _).drew).grown hgrow)) _ _, by simpa [World.setCell] using hlt⟩
end Go.Proofs.Qxb6609285aDoor
