/- The copy ahead of both laws; the first law's walk. -/
import Derived.Test.Qxb6609436aWalkB
import Derived.Laws.MakeOwn
import Derived.Laws.CopyOwn
import Derived.Deep.DeepCutAuto
namespace Go.Proofs.Qxb6609436a
open Go.RowKit Go.Proofs
set_option linter.unusedVariables false
set_option linter.unusedSimpArgs false

theorem info2 : (Try.prog.info? 2).map (fun i => (i.zero, i.size, i.bytes)) = some (some (.int .i64 0), 1, 8) := by kernel_rfl
theorem size2 : (Try.prog.info? 2).map (·.size) = some 1 := by kernel_rfl
theorem info_of {P : Program} {t : TypeId} {z : Value} {s b : Nat} (h : (P.info? t).map (fun i => (i.zero, i.size, i.bytes)) = some (some z, s, b)) : ∃ i, P.info? t = some i ∧ i.zero = some z ∧ i.size = s ∧ i.bytes = b := by
  cases hi : P.info? t with
  | none => rw [hi] at h; cases h
  | some i =>
    rw [hi] at h
    simp only [Option.map_some, Option.some.injEq, Prod.mk.injEq] at h
    exact ⟨i, rfl, h.1, h.2.1, h.2.2⟩
/-- A row of n zeros, under a name. -/
def zeros (n : Nat) : List Value := (madeCells #[.int .i64 0] n).toList
theorem zeros_length (n : Nat) : (zeros n).length = n := by unfold zeros; rw [Array.length_toList, size_madeCells]
/-- make([]int64, n). -/
theorem make22 (n : Nat) (hn : n ≤ 131072) (w : World) : (Instr.makeSlice 22 (.int .i64 n) (.int .i64 n)).run Try.prog w = .ok (.slice (some ⟨w.heap.size, 0, none⟩) n n) (w.alloc (.cells (zeros n).toArray 2)) := by
  obtain ⟨i, hi, hz, hs, hb⟩ := info_of info2
  have := run_make (P := Try.prog) w 22 2 i (.int .i64 0) Try.underlying22 hi hz .i64 .i64 n n (by omega) (by omega) (by rw [hb]; omega) (by omega)
  rw [hs, Nat.mul_one] at this
  exact this

/-- The cells that go over. -/
def cellsOf (z : List Int) (n : Nat) : List Value := (z.take n).map (.int .i64)
theorem cellsOf_length (z : List Int) (n : Nat) (h : n ≤ z.length) : (cellsOf z n).length = n := by unfold cellsOf; rw [List.length_map, List.length_take, Nat.min_eq_left h]
theorem cellsOf_one (z : List Int) (n : Nat) : ∀ u ∈ cellsOf z n, u.oneCell' = true := fun u hu => by
  unfold cellsOf at hu
  obtain ⟨x, _, rfl⟩ := List.mem_map.1 hu
  rfl
theorem cellsOf_at (z : List Int) (n : Nat) (w : World) (x : Addr) (hc : ∀ i, i < z.length → w.cell? (x.add i) = some (.int .i64 (z.getD i 0))) : ∀ j v, (cellsOf z n)[j]? = some v → w.cell? (x.add j) = some v := by
  intro j v h
  unfold cellsOf at h
  rw [List.getElem?_map, Option.map_eq_some_iff] at h
  obtain ⟨y, hy, rfl⟩ := h
  rw [List.getElem?_take] at hy
  split at hy
  · obtain ⟨hlt, rfl⟩ := List.getElem?_eq_some_iff.1 hy
    rw [hc j hlt, List.getD_eq_getElem?_getD, List.getElem?_eq_getElem hlt]; rfl
  · cases hy

theorem Ext.cell {a b : World} (h : Ext a b) {p : Addr} {v : Value} (hc : a.cell? p = some v) : b.cell? p = some v := by
  have := World.block_lt_of_cell? _ _ hc
  exact (Below.cell h this).trans hc

/-- copy(zzc, list): whatever is written lies in the new block. -/
theorem copy22 (w : World) (n c : Nat) (x : Addr) (z : List Int) (hn : n ≤ z.length) (hc : ∀ i, i < z.length → w.cell? (x.add i) = some (.int .i64 (z.getD i 0))) :
    ∃ w1, (Builtin.copy_ #[22, 22] 3 #[.slice (some ⟨w.heap.size, 0, none⟩) n n, .slice (some x) n c]).run Try.prog (w.alloc (.cells (zeros n).toArray 2)) = .ok (goInt n) w1 ∧ Ext w w1 := by
  have hx : Ext w (w.alloc (.cells (zeros n).toArray 2)) := (Ext.refl w).alloc _
  have hl := cellsOf_length z n hn
  have := run_copy_row (P := Try.prog) (w.alloc (.cells (zeros n).toArray 2)) 22 22 3 2 w.heap.size 0 n n x n c (zeros n).toArray 2 (cellsOf z n) Try.underlying22 size2 (heap_alloc_new w _) (by rw [hl]; exact (Nat.min_self n).symm)
    (fun j v h => hx.cell (cellsOf_at z n w x hc j v h)) (by rw [hl, List.size_toArray, zeros_length]; omega) (cellsOf_one z n)
  rw [hl] at this
  exact ⟨_, this, below_setRow hx (Nat.le_refl _) _⟩

set_option maxHeartbeats 1000000 in
theorem lawA_none (ls : Bool) (lv : Int) (li hs : Bool) (hv : Int) (hi listed : Bool) (w : World) :
    Calls Try.prog 3 #[.bool ls, .int .i64 lv, .bool li, .bool hs, .int .i64 hv, .bool hi, .bool listed, .slice none 0 0] w fun e w' => e = .returned (.bool true) ∧ Ext w w' := by
  have E := hide (emp_some ls lv li hs hv hi)
  have H6 := hide (fun w => empty_any ls lv li hs hv hi listed none 0 0 w)
  have H7 := hide (fun w => some_any ls lv li hs hv hi w)
  have H5 := hide (fun w => bytesB_any ls lv li hs hv hi listed none 0 0 w)
  generalize emp ls lv li hs hv hi = r at *
  generalize some1 ls lv li hs hv hi = q at *
  obtain rfl := E.out
  go_enter Try.func3, Try.ntmps3
  go_wp2_with fail
  refine (H5.out _).mono ?_
  rintro e w0 ⟨bb, rfl, rfl⟩
  cases bb
  · go_wp2_with fail
    go_ret
    exact ⟨rfl, Ext.refl _⟩
  go_wp2_with fail
  refine (H6.out _).mono ?_
  rintro e w1 ⟨rfl, hx⟩
  have HX := hide hx
  clear hx
  go_wp2_with fail
  refine (H7.out _).mono ?_
  rintro e w2 ⟨rfl, rfl⟩
  go_wp2_with fail
  go_ret
  exact ⟨by cases q <;> rfl, HX.out⟩

set_option maxHeartbeats 1000000 in
theorem lawA_some (ls : Bool) (lv : Int) (li hs : Bool) (hv : Int) (hi listed : Bool) (x : Addr) (n c : Nat) (z : List Int) (w : World) (hn : n ≤ z.length)
    (hc : ∀ i, i < z.length → w.cell? (x.add i) = some (.int .i64 (z.getD i 0))) :
    Calls Try.prog 3 #[.bool ls, .int .i64 lv, .bool li, .bool hs, .int .i64 hv, .bool hi, .bool listed, .slice (some x) n c] w fun e w' => e = .returned (.bool true) ∧ Ext w w' := by
  have E := hide (emp_some ls lv li hs hv hi)
  have H6 := hide (fun a m k w => empty_any ls lv li hs hv hi listed a m k w)
  have H7 := hide (fun w => some_any ls lv li hs hv hi w)
  have H5 := hide (fun w => bytesB_any ls lv li hs hv hi listed (some x) n c w)
  obtain ⟨w9, hcp, hx9⟩ := copy22 w n c x z hn hc
  have HX9 := hide hx9
  clear hc hx9 hn
  generalize emp ls lv li hs hv hi = r at *
  generalize some1 ls lv li hs hv hi = q at *
  obtain rfl := E.out
  clear E
  go_enter Try.func3, Try.ntmps3
  go_wp2_with fail
  refine (H5.out _).mono ?_
  rintro e w0 ⟨bb, rfl, rfl⟩
  cases bb
  · go_wp2_with fail
    go_ret
    exact ⟨rfl, Ext.refl _⟩
  by_cases hb : 131072 < n
  · have hbi : (131072 : Int) < n := by omega
    go_wp2_with fail
    go_ret
    exact ⟨rfl, Ext.refl _⟩
  have hbi : ¬ (131072 : Int) < n := by omega
  have hmk := make22 n (by omega)
  go_wp2_with fail
  refine (H6.out _ _ _ _).mono ?_
  rintro e w1 ⟨rfl, hx⟩
  have HX := hide hx
  clear hx
  go_wp2_with fail
  refine (H7.out _).mono ?_
  rintro e w2 ⟨rfl, rfl⟩
  go_wp2_with fail
  go_ret
  exact ⟨by cases q <;> rfl, HX9.out.trans HX.out⟩
end Go.Proofs.Qxb6609436a
