import Derived.Test.Qxb6609343aWalkA
import Derived.Laws.Tables
import Derived.Great.BuildSlice
import Derived.Deep.DeepCutAuto
namespace Go.Proofs.Qxb6609343a
open Go.RowKit Go.Proofs
set_option linter.unusedVariables false
set_option linter.unusedSimpArgs false

/-- The cells of an empty CMap over a base. -/
noncomputable def CM (bv : Option Addr) : Array Value := (Try.prog.built 50 [(3, .pointer bv)]).getD #[]
theorem CM_isSome (bv : Option Addr) : (Try.prog.built 50 [(3, .pointer bv)]).isSome = true := by kernel_rfl
theorem CM_some (bv : Option Addr) : Try.prog.built 50 [(3, .pointer bv)] = some (CM bv) := by
  obtain ⟨c, hc⟩ := Option.isSome_iff_exists.1 (CM_isSome bv)
  unfold CM; rw [hc]; rfl
theorem CM_get1 (bv : Option Addr) : (CM bv)[261]? = some (.slice none 0 0) := by kernel_rfl
theorem CM_get2 (bv : Option Addr) : (CM bv)[262]? = some (.slice none 0 0) := by kernel_rfl
theorem CM_get3 (bv : Option Addr) : (CM bv)[263]? = some (.pointer bv) := by kernel_rfl
theorem CM_size (bv : Option Addr) : (CM bv).size = 264 := by kernel_rfl

theorem built_at (bv : Option Addr) (a : Act) (h : a.eval (.tmp 11) = .pointer bv) : Try.prog.built 50 ((#[(3, Operand.tmp 11)] : Array (Nat × Operand)).map fun (i, x) => (i, a.eval x)).toList = some (CM bv) := by
  rw [← CM_some bv, ← h]; simp

theorem info53 : (Try.prog.info? 53).map (fun i => (i.zero, i.size, i.bytes)) = some (some (.agg #[.int .u32 0, .int .u32 0, .slice none 0 0, .int .u32 0]), 4, 40) := by kernel_rfl
theorem info55 : (Try.prog.info? 55).map (fun i => (i.zero, i.size, i.bytes)) = some (some (.agg #[.int .u32 0, .int .u32 0, .int .i32 0]), 3, 12) := by kernel_rfl
theorem make45 (n : Nat) (hn : n ≤ 32768) (w : World) : (Instr.makeSlice 45 (.int .i64 n) (.int .i64 n)).run Try.prog w = .ok (.slice (some ⟨w.heap.size, 0, none⟩) n n) (w.alloc (.cells (madeCells #[.int .u32 0, .int .u32 0, .slice none 0 0, .int .u32 0] (n * 4)) 53)) := by
  obtain ⟨i, hi, hz, hs, hb⟩ := info_of info53
  have := run_make (P := Try.prog) w 45 53 i _ Try.underlying45 hi hz .i64 .i64 n n (by omega) (by omega) (by rw [hb]; omega) (by omega)
  rw [hs] at this
  exact this
theorem make46 (n : Nat) (hn : n ≤ 32768) (w : World) : (Instr.makeSlice 46 (.int .i64 n) (.int .i64 n)).run Try.prog w = .ok (.slice (some ⟨w.heap.size, 0, none⟩) n n) (w.alloc (.cells (madeCells #[.int .u32 0, .int .u32 0, .int .i32 0] (n * 3)) 55)) := by
  obtain ⟨i, hi, hz, hs, hb⟩ := info_of info55
  have := run_make (P := Try.prog) w 46 55 i _ Try.underlying46 hi hz .i64 .i64 n n (by omega) (by omega) (by rw [hb]; omega) (by omega)
  rw [hs] at this
  exact this

/-- n rows of m cells, as they lie. -/
structure Grid (w : World) (b m n : Nat) (v : Nat → Nat → Value) : Prop where
  cell : ∀ i j, i < n → j < m → w.cell? ⟨b, i * m + j, none⟩ = some (v i j)
  free : ∀ i j, i < n → j < m → w.frozen? ⟨b, i * m + j, none⟩ = false
theorem Grid.ext {w w' : World} {b m n : Nat} {v : Nat → Nat → Value} (h : Grid w b m n v) (k : Ext w w') : Grid w' b m n v := ⟨fun i j hi hj => k.cell (h.cell i j hi hj), fun i j hi hj => k.frozen (h.cell i j hi hj) (h.free i j hi hj)⟩
theorem Grid.other {w : World} {b m n c k : Nat} {v : Nat → Nat → Value} {x : Value} (h : Grid w b m n v) (hc : c ≠ b) : Grid (w.setCell ⟨c, k, none⟩ x) b m n v :=
  ⟨fun i j hi hj => by rw [cell_other (a := ⟨c, k, none⟩) (b := ⟨b, i * m + j, none⟩) (by intro g; injection g with g1 _ _; exact hc g1)]; exact h.cell i j hi hj, fun i j hi hj => by rw [World.frozen?_setCell]; exact h.free i j hi hj⟩
/-- One cell turned. -/
def upd (v : Nat → Nat → Value) (k l : Nat) (x : Value) : Nat → Nat → Value := fun i j => if i = k ∧ j = l then x else v i j
theorem place_inj {m i j k l : Nat} (hj : j < m) (hl : l < m) (h : i * m + j = k * m + l) : i = k ∧ j = l := by
  have h1 : (i * m + j) / m = i := by rw [Nat.mul_comm, Nat.mul_add_div (by omega), Nat.div_eq_of_lt hj]; omega
  have h2 : (k * m + l) / m = k := by rw [Nat.mul_comm, Nat.mul_add_div (by omega), Nat.div_eq_of_lt hl]; omega
  have : i = k := by rw [← h1, ← h2, h]
  subst this
  exact ⟨rfl, by omega⟩
theorem Grid.set {w : World} {b m n k l : Nat} {v : Nat → Nat → Value} (x : Value) (h : Grid w b m n v) (hk : k < n) (hl : l < m) : Grid (w.setCell ⟨b, k * m + l, none⟩ x) b m n (upd v k l x) := by
  refine ⟨fun i j hi hj => ?_, fun i j hi hj => by rw [World.frozen?_setCell]; exact h.free i j hi hj⟩
  unfold upd
  by_cases e : i = k ∧ j = l
  · rw [if_pos e]; obtain ⟨rfl, rfl⟩ := e; exact cell_same (h.cell i j hi hj)
  · rw [if_neg e, cell_other (a := ⟨b, k * m + l, none⟩) (b := ⟨b, i * m + j, none⟩) (by intro g; injection g with _ g2 _; exact e ((place_inj hl hj g2).imp Eq.symm Eq.symm))]
    exact h.cell i j hi hj
theorem Grid.congr {w : World} {b m n : Nat} {v v' : Nat → Nat → Value} (h : Grid w b m n v) (e : ∀ i j, i < n → j < m → v' i j = v i j) : Grid w b m n v' := ⟨fun i j hi hj => by rw [e i j hi hj]; exact h.cell i j hi hj, h.free⟩
theorem Grid.new (w : World) (z : Array Value) (t : TypeId) (m n : Nat) (hz : z.size = m) : Grid (w.alloc (.cells (madeCells z (n * m)) t)) w.heap.size m n (fun _ j => z[j]!) := by
  refine ⟨fun i j hi hj => ?_, fun i j hi hj => World.frozen?_alloc_at _ _ _ _ rfl⟩
  rw [World.cell?_alloc_at _ _ _ _ rfl]
  show (madeCells z (n * m))[i * m + j]? = _
  have hlt : i * m + j < n * m := by
    have : (i + 1) * m ≤ n * m := Nat.mul_le_mul_right m hi
    rw [Nat.succ_mul] at this; omega
  rw [made_get _ _ _ hlt, hz, Nat.mul_comm, Nat.mul_add_mod, Nat.mod_eq_of_lt hj]

/-- A mapping's four cells; a span's three. -/
def fL (lo hi cid : Nat → Nat) : Nat → Nat → Value := fun i j => if j = 0 then .int .u32 (lo i) else if j = 1 then .int .u32 (hi i) else if j = 2 then .slice none 0 0 else .int .u32 (cid i)
def fS (lo hi : Nat → Nat) : Nat → Nat → Value := fun i j => if j = 0 then .int .u32 (lo i) else if j = 1 then .int .u32 (hi i) else .int .i32 (i : Nat)
/-- The first k rows are laid. -/
def part (f z : Nat → Nat → Value) (k : Nat) : Nat → Nat → Value := fun i j => if i < k then f i j else z i j

/-- A CMap, as it lies at block mb. -/
structure MapAt (w : World) (mb lb sb n : Nat) (lo hi cid : Nat → Nat) (bv : Option Addr) : Prop where
  list : w.cell? ⟨mb, 261, none⟩ = some (.slice (some ⟨lb, 0, none⟩) n n)
  spans : w.cell? ⟨mb, 262, none⟩ = some (.slice (some ⟨sb, 0, none⟩) n n)
  base : w.cell? ⟨mb, 263, none⟩ = some (.pointer bv)
  L : Grid w lb 4 n (fL lo hi cid)
  S : Grid w sb 3 n (fS lo hi)
theorem MapAt.ext {w w' : World} {mb lb sb n : Nat} {lo hi cid : Nat → Nat} {bv : Option Addr} (h : MapAt w mb lb sb n lo hi cid bv) (k : Ext w w') : MapAt w' mb lb sb n lo hi cid bv :=
  ⟨k.cell h.list, k.cell h.spans, k.cell h.base, h.L.ext k, h.S.ext k⟩

theorem partL_step (lo hi cid : Nat → Nat) (z : Nat → Nat → Value) (k i j : Nat) (hj : j < 4) :
    part (fL lo hi cid) z (k + 1) i j = upd (upd (upd (upd (part (fL lo hi cid) z k) k 0 (.int .u32 (lo k))) k 1 (.int .u32 (hi k))) k 2 (.slice none 0 0)) k 3 (.int .u32 (cid k)) i j := by
  unfold part upd fL
  by_cases e : i = k
  · subst e
    rcases (show j = 0 ∨ j = 1 ∨ j = 2 ∨ j = 3 by omega) with rfl | rfl | rfl | rfl <;> simp
  · simp only [e, false_and, if_false]
    by_cases g : i < k
    · rw [if_pos g, if_pos (by omega)]
    · rw [if_neg g, if_neg (by omega)]
theorem partS_step (lo hi : Nat → Nat) (z : Nat → Nat → Value) (k i j : Nat) (hj : j < 3) :
    part (fS lo hi) z (k + 1) i j = upd (upd (upd (part (fS lo hi) z k) k 0 (.int .u32 (lo k))) k 1 (.int .u32 (hi k))) k 2 (.int .i32 (k : Nat)) i j := by
  unfold part upd fS
  by_cases e : i = k
  · subst e
    rcases (show j = 0 ∨ j = 1 ∨ j = 2 by omega) with rfl | rfl | rfl <;> simp
  · simp only [e, false_and, if_false]
    by_cases g : i < k
    · rw [if_pos g, if_pos (by omega)]
    · rw [if_neg g, if_neg (by omega)]
theorem part_all {w : World} {b m n : Nat} {f z : Nat → Nat → Value} (h : Grid w b m n (part f z n)) : Grid w b m n f := h.congr fun i j hi hj => by unfold part; rw [if_pos hi]

set_option maxRecDepth 10000 in
set_option maxHeartbeats 2000000 in
theorem new_any (n l h c : Nat) (lo hi cid : Nat → Nat) (bv : Option Addr) (w : World) (hn : n ≤ 32768) (s0 : U32 w l n lo) (s1 : U32 w h n hi) (s2 : U32 w c n cid) :
    Calls Try.prog 11 #[.slice (some ⟨l, 0, none⟩) n n, .slice (some ⟨h, 0, none⟩) n n, .slice (some ⟨c, 0, none⟩) n n, .pointer bv] w fun e w' => e = .returned (.pointer (some ⟨w.heap.size, 0, none⟩)) ∧ Ext w w' ∧ MapAt w' w.heap.size (w.heap.size + 1) (w.heap.size + 2) n lo hi cid bv := by
  have S0 := hide s0
  have S1 := hide s1
  have S2 := hide s2
  clear s0 s1 s2
  go_enter Try.func11, Try.ntmps11
  go_upto_region 2 with (refine wpList_buildTo rfl 50 _ rfl (some 12) rfl (CM bv) (built_at bv _ rfl) ?_)
  obtain ⟨W1, hW1⟩ : ∃ W, W = w.alloc (.cells (CM bv) 50) := ⟨_, rfl⟩
  have HX1 : Hid (Ext w W1) := by rw [hW1]; exact (Ext.refl _).alloc _
  have z1 : W1.heap.size = w.heap.size + 1 := by rw [hW1]; simp
  have g1 : W1.cell? ⟨w.heap.size, 261, none⟩ = some (.slice none 0 0) := by rw [hW1, World.cell?_alloc_at _ _ _ _ rfl]; exact CM_get1 bv
  have g2 : W1.cell? ⟨w.heap.size, 262, none⟩ = some (.slice none 0 0) := by rw [hW1, World.cell?_alloc_at _ _ _ _ rfl]; exact CM_get2 bv
  have g3 : W1.cell? ⟨w.heap.size, 263, none⟩ = some (.pointer bv) := by rw [hW1, World.cell?_alloc_at _ _ _ _ rfl]; exact CM_get3 bv
  have f1 : W1.frozen? ⟨w.heap.size, 261, none⟩ = false := by rw [hW1]; exact World.frozen?_alloc_at _ _ _ _ rfl
  have f2 : W1.frozen? ⟨w.heap.size, 262, none⟩ = false := by rw [hW1]; exact World.frozen?_alloc_at _ _ _ _ rfl
  rw [← hW1]
  clear hW1
  have hmk := make45 n hn
  have hms := make46 n hn
  have hz1 : w.heap.size < W1.heap.size := by omega
  have hne1 : ¬ w.heap.size = W1.heap.size := by omega
  have hne2 : ¬ w.heap.size = W1.heap.size + 1 := by omega
  go_wp2_with fail
  obtain ⟨W2, hW2⟩ : ∃ W, W = ((((W1.setCell ⟨w.heap.size, 261, none⟩ (.slice (some ⟨w.heap.size + 1, 0, none⟩) n n)).setCell ⟨w.heap.size, 262, none⟩ (.slice (some ⟨w.heap.size + 1 + 1, 0, none⟩) n n)).alloc
      (.cells (madeCells #[.int .u32 0, .int .u32 0, .slice none 0 0, .int .u32 0] (n * 4)) 53)).alloc (.cells (madeCells #[.int .u32 0, .int .u32 0, .int .i32 0] (n * 3)) 55)) := ⟨_, rfl⟩
  obtain ⟨W3, hW3⟩ : ∃ W, W = (W1.setCell ⟨w.heap.size, 261, none⟩ (.slice (some ⟨w.heap.size + 1, 0, none⟩) n n)).setCell ⟨w.heap.size, 262, none⟩ (.slice (some ⟨w.heap.size + 1 + 1, 0, none⟩) n n) := ⟨_, rfl⟩
  have z3 : W3.heap.size = w.heap.size + 1 := by rw [hW3]; simp [World.setCell, z1]
  have hx3 : Ext w W3 := by rw [hW3]; exact (HX1.out.setCell (Nat.le_refl _) _).setCell (Nat.le_refl _) _
  have k1 : W3.cell? ⟨w.heap.size, 261, none⟩ = some (.slice (some ⟨w.heap.size + 1, 0, none⟩) n n) := by
    rw [hW3, cell_other (a := ⟨w.heap.size, 262, none⟩) (b := ⟨w.heap.size, 261, none⟩) (by simp)]; exact cell_same g1
  have k2 : W3.cell? ⟨w.heap.size, 262, none⟩ = some (.slice (some ⟨w.heap.size + 1 + 1, 0, none⟩) n n) := by
    rw [hW3]; exact cell_same (u := .slice none 0 0) (by rw [cell_other (a := ⟨w.heap.size, 261, none⟩) (b := ⟨w.heap.size, 262, none⟩) (by simp)]; exact g2)
  have k3 : W3.cell? ⟨w.heap.size, 263, none⟩ = some (.pointer bv) := by
    rw [hW3, cell_other (a := ⟨w.heap.size, 262, none⟩) (b := ⟨w.heap.size, 263, none⟩) (by simp), cell_other (a := ⟨w.heap.size, 261, none⟩) (b := ⟨w.heap.size, 263, none⟩) (by simp)]; exact g3
  rw [← hW3] at hW2
  have hx2 : Ext W3 W2 := by rw [hW2]; exact ((Ext.refl _).alloc _).alloc _
  have HL : Hid (Grid W2 (w.heap.size + 1) 4 n (part (fL lo hi cid) (fun _ j => #[Value.int .u32 0, .int .u32 0, .slice none 0 0, .int .u32 0][j]!) 0)) := by
    have := (Grid.new W3 #[.int .u32 0, .int .u32 0, .slice none 0 0, .int .u32 0] 53 4 n rfl).ext ((Ext.refl _).alloc (.cells (madeCells #[.int .u32 0, .int .u32 0, .int .i32 0] (n * 3)) 55))
    rw [z3] at this
    rw [hW2]; exact this
  have HS : Hid (Grid W2 (w.heap.size + 2) 3 n (part (fS lo hi) (fun _ j => #[Value.int .u32 0, .int .u32 0, .int .i32 0][j]!) 0)) := by
    have := Grid.new (W3.alloc (.cells (madeCells #[.int .u32 0, .int .u32 0, .slice none 0 0, .int .u32 0] (n * 4)) 53)) #[.int .u32 0, .int .u32 0, .int .i32 0] 55 3 n rfl
    rw [World.size_alloc, z3] at this
    rw [hW2]; exact this
  have HX2 := hide (hx3.trans hx2)
  have K1 := hide (hx2.cell k1)
  have K2 := hide (hx2.cell k2)
  have K3 := hide (hx2.cell k3)
  rw [hW3] at hW2
  rw [← hW2]
  clear hW2 hW3 hx2 hx3 k1 k2 k3 z3 z1 g1 g2 g3 f1 f2 hmk hms hz1 hne1 hne2 HX1
  go_loopw [30] (fun x wr => ∃ k : Nat, k ≤ n ∧ x = .int .i64 k ∧ Hid (Ext w wr) ∧ Hid (wr.cell? ⟨w.heap.size, 261, none⟩ = some (.slice (some ⟨w.heap.size + 1, 0, none⟩) n n)) ∧ Hid (wr.cell? ⟨w.heap.size, 262, none⟩ = some (.slice (some ⟨w.heap.size + 1 + 1, 0, none⟩) n n)) ∧ Hid (wr.cell? ⟨w.heap.size, 263, none⟩ = some (.pointer bv)) ∧
      Hid (Grid wr (w.heap.size + 1) 4 n (part (fL lo hi cid) (fun _ j => #[Value.int .u32 0, .int .u32 0, .slice none 0 0, .int .u32 0][j]!) k)) ∧ Hid (Grid wr (w.heap.size + 2) 3 n (part (fS lo hi) (fun _ j => #[Value.int .u32 0, .int .u32 0, .int .i32 0][j]!) k))) (fun x _ => n - (intOf x).toNat)
  case atStart => exact ⟨0, by omega, rfl, HX2, K1, K2, K3, HL, HS⟩
  case round =>
    clear HX2 K1 K2 K3 HL HS
    obtain ⟨k, hk, rfl, HX, K1, K2, K3, HL, HS⟩ := hrel
    by_cases hlt : k < n
    · have hlti : (k : Int) < n := by omega
      have c0 := HX.out.cell (S0.out.cell k hlt)
      have c1 := HX.out.cell (S1.out.cell k hlt)
      have c2 := HX.out.cell (S2.out.cell k hlt)
      have k1 := K1.out
      have d0 := HL.out.cell k 0 hlt (by omega)
      have d1 := HL.out.cell k 1 hlt (by omega)
      have d2 := HL.out.cell k 2 hlt (by omega)
      have d3 := HL.out.cell k 3 hlt (by omega)
      have f0 := HL.out.free k 0 hlt (by omega)
      have f1 := HL.out.free k 1 hlt (by omega)
      have f2 := HL.out.free k 2 hlt (by omega)
      have f3 := HL.out.free k 3 hlt (by omega)
      replace d0 : wr.cell? ⟨w.heap.size + 1, k * 4, none⟩ = _ := d0
      replace f0 : wr.frozen? ⟨w.heap.size + 1, k * 4, none⟩ = _ := f0
      have hs1 : w.heap.size + 1 < wr.heap.size := World.block_lt_of_cell? _ _ d0
      generalize hv0 : part (fL lo hi cid) (fun _ j => #[Value.int .u32 0, .int .u32 0, .slice none 0 0, .int .u32 0][j]!) k k 0 = v0 at d0
      generalize hv1 : part (fL lo hi cid) (fun _ j => #[Value.int .u32 0, .int .u32 0, .slice none 0 0, .int .u32 0][j]!) k k 1 = v1 at d1
      generalize hv2 : part (fL lo hi cid) (fun _ j => #[Value.int .u32 0, .int .u32 0, .slice none 0 0, .int .u32 0][j]!) k k 2 = v2 at d2
      generalize hv3 : part (fL lo hi cid) (fun _ j => #[Value.int .u32 0, .int .u32 0, .slice none 0 0, .int .u32 0][j]!) k k 3 = v3 at d3
      clear hv0 hv1 hv2 hv3
      obtain ⟨lk, hlk⟩ : ∃ x, Hid (lo k = x) := ⟨_, rfl⟩
      obtain ⟨hk', hhk⟩ : ∃ x, Hid (hi k = x) := ⟨_, rfl⟩
      obtain ⟨ck, hck⟩ : ∃ x, Hid (cid k = x) := ⟨_, rfl⟩
      rw [hlk.out] at c0
      rw [hhk.out] at c1
      rw [hck.out] at c2
      go_wp2_with fail
      go_region
      have HL7 : Hid (Grid _ (w.heap.size + 1) 4 n (part (fL lo hi cid) (fun _ j => #[Value.int .u32 0, .int .u32 0, .slice none 0 0, .int .u32 0][j]!) (k + 1))) := ((((((HL.out.set (k := k) (l := 0) (.int .u32 (lo k)) hlt (by omega)).set (k := k) (l := 1) (.int .u32 (hi k)) hlt (by omega)).set (k := k) (l := 2) (.slice none 0 0) hlt (by omega)).set (k := k) (l := 3) (.int .u32 (cid k)) hlt (by omega))).congr (fun i j _ hj => partL_step lo hi cid _ k i j hj)).ext (Ext.refl _).drew
      rw [hlk.out, hhk.out, hck.out] at HL7
      have HS7 := hide (((((HS.out.other (c := w.heap.size + 1) (k := k * 4) (x := .int .u32 lk) (by omega)).other (c := w.heap.size + 1) (k := k * 4 + 1) (x := .int .u32 hk') (by omega)).other (c := w.heap.size + 1) (k := k * 4 + 2) (x := .slice none 0 0) (by omega)).other (c := w.heap.size + 1) (k := k * 4 + 3) (x := .int .u32 ck) (by omega)).ext (Ext.refl _).drew)
      have HX7 := hide ((((((HX.out.setCell (p := ⟨w.heap.size + 1, k * 4, none⟩) (show w.heap.size ≤ w.heap.size + 1 by omega) (.int .u32 lk)).setCell (p := ⟨w.heap.size + 1, k * 4 + 1, none⟩) (show w.heap.size ≤ w.heap.size + 1 by omega) (.int .u32 hk')).setCell (p := ⟨w.heap.size + 1, k * 4 + 2, none⟩) (show w.heap.size ≤ w.heap.size + 1 by omega) (.slice none 0 0)).setCell (p := ⟨w.heap.size + 1, k * 4 + 3, none⟩) (show w.heap.size ≤ w.heap.size + 1 by omega) (.int .u32 ck))).drew)
      have mapc : ∀ (j : Nat) (v : Value), wr.cell? ⟨w.heap.size, j, none⟩ = some v → ((((wr.setCell ⟨w.heap.size + 1, k * 4, none⟩ (.int .u32 lk)).setCell ⟨w.heap.size + 1, k * 4 + 1, none⟩ (.int .u32 hk')).setCell ⟨w.heap.size + 1, k * 4 + 2, none⟩ (.slice none 0 0)).setCell ⟨w.heap.size + 1, k * 4 + 3, none⟩ (.int .u32 ck)).drew.cell? ⟨w.heap.size, j, none⟩ = some v := fun j v hv => by
        show ((((wr.setCell ⟨w.heap.size + 1, k * 4, none⟩ (.int .u32 lk)).setCell ⟨w.heap.size + 1, k * 4 + 1, none⟩ (.int .u32 hk')).setCell ⟨w.heap.size + 1, k * 4 + 2, none⟩ (.slice none 0 0)).setCell ⟨w.heap.size + 1, k * 4 + 3, none⟩ (.int .u32 ck)).cell? ⟨w.heap.size, j, none⟩ = some v
        rw [cell_other (a := ⟨w.heap.size + 1, k * 4 + 3, none⟩) (b := ⟨w.heap.size, j, none⟩) (by simp), cell_other (a := ⟨w.heap.size + 1, k * 4 + 2, none⟩) (b := ⟨w.heap.size, j, none⟩) (by simp), cell_other (a := ⟨w.heap.size + 1, k * 4 + 1, none⟩) (b := ⟨w.heap.size, j, none⟩) (by simp), cell_other (a := ⟨w.heap.size + 1, k * 4, none⟩) (b := ⟨w.heap.size, j, none⟩) (by simp)]
        exact hv
      have J1 := hide (mapc 261 _ K1.out)
      have J2 := hide (mapc 262 _ K2.out)
      have J3 := hide (mapc 263 _ K3.out)
      clear mapc HX HL HS K1 K2 K3 k1 d0 d1 d2 d3 f0 f1 f2 f3 hs1 c0 c1 c2
      replace HL7 : Hid (Grid ((((wr.setCell ⟨w.heap.size + 1, k * 4, none⟩ (.int .u32 lk)).setCell ⟨w.heap.size + 1, k * 4 + 1, none⟩ (.int .u32 hk')).setCell ⟨w.heap.size + 1, k * 4 + 2, none⟩ (.slice none 0 0)).setCell ⟨w.heap.size + 1, k * 4 + 3, none⟩ (.int .u32 ck)).drew _ _ _ _) := HL7
      generalize ((((wr.setCell ⟨w.heap.size + 1, k * 4, none⟩ (.int .u32 lk)).setCell ⟨w.heap.size + 1, k * 4 + 1, none⟩ (.int .u32 hk')).setCell ⟨w.heap.size + 1, k * 4 + 2, none⟩ (.slice none 0 0)).setCell ⟨w.heap.size + 1, k * 4 + 3, none⟩ (.int .u32 ck)).drew = W7 at *
      have c0 := HX7.out.cell (S0.out.cell k hlt)
      have c1 := HX7.out.cell (S1.out.cell k hlt)
      rw [hlk.out] at c0
      rw [hhk.out] at c1
      have j2 := J2.out
      have d0 := HS7.out.cell k 0 hlt (by omega)
      have d1 := HS7.out.cell k 1 hlt (by omega)
      have d2 := HS7.out.cell k 2 hlt (by omega)
      have f0 := HS7.out.free k 0 hlt (by omega)
      have f1 := HS7.out.free k 1 hlt (by omega)
      have f2 := HS7.out.free k 2 hlt (by omega)
      replace d0 : W7.cell? ⟨w.heap.size + 1 + 1, k * 3, none⟩ = _ := d0
      replace f0 : W7.frozen? ⟨w.heap.size + 1 + 1, k * 3, none⟩ = _ := f0
      replace d1 : W7.cell? ⟨w.heap.size + 1 + 1, k * 3 + 1, none⟩ = _ := d1
      replace f1 : W7.frozen? ⟨w.heap.size + 1 + 1, k * 3 + 1, none⟩ = _ := f1
      replace d2 : W7.cell? ⟨w.heap.size + 1 + 1, k * 3 + 2, none⟩ = _ := d2
      replace f2 : W7.frozen? ⟨w.heap.size + 1 + 1, k * 3 + 2, none⟩ = _ := f2
      generalize hv0 : part (fS lo hi) (fun _ j => #[Value.int .u32 0, .int .u32 0, .int .i32 0][j]!) k k 0 = v0 at d0
      generalize hv1 : part (fS lo hi) (fun _ j => #[Value.int .u32 0, .int .u32 0, .int .i32 0][j]!) k k 1 = v1 at d1
      generalize hv2 : part (fS lo hi) (fun _ j => #[Value.int .u32 0, .int .u32 0, .int .i32 0][j]!) k k 2 = v2 at d2
      clear hv0 hv1 hv2
      have hs2 : w.heap.size + 1 + 1 < W7.heap.size := World.block_lt_of_cell? _ _ d0
      go_wp2_with fail
      go_region
      have HS8 : Hid (Grid _ (w.heap.size + 2) 3 n (part (fS lo hi) (fun _ j => #[Value.int .u32 0, .int .u32 0, .int .i32 0][j]!) (k + 1))) := (((((HS7.out.set (k := k) (l := 0) (.int .u32 (lo k)) hlt (by omega)).set (k := k) (l := 1) (.int .u32 (hi k)) hlt (by omega)).set (k := k) (l := 2) (.int .i32 (k : Nat)) hlt (by omega))).congr (fun i j _ hj => partS_step lo hi _ k i j hj)).ext (Ext.refl _).drew
      rw [hlk.out, hhk.out] at HS8
      replace HS8 : Hid (Grid (((W7.setCell ⟨w.heap.size + 1 + 1, k * 3, none⟩ (.int .u32 lk)).setCell ⟨w.heap.size + 1 + 1, k * 3 + 1, none⟩ (.int .u32 hk')).setCell ⟨w.heap.size + 1 + 1, k * 3 + 2, none⟩ (.int .i32 (k : Nat))).drew _ _ _ _) := HS8
      have HL8 := hide ((((HL7.out.other (c := w.heap.size + 1 + 1) (k := k * 3) (x := .int .u32 lk) (by omega)).other (c := w.heap.size + 1 + 1) (k := k * 3 + 1) (x := .int .u32 hk') (by omega)).other (c := w.heap.size + 1 + 1) (k := k * 3 + 2) (x := .int .i32 (k : Nat)) (by omega)).ext (Ext.refl _).drew)
      have HX8 := hide ((((HX7.out.setCell (p := ⟨w.heap.size + 1 + 1, k * 3, none⟩) (show w.heap.size ≤ w.heap.size + 1 + 1 by omega) (.int .u32 lk)).setCell (p := ⟨w.heap.size + 1 + 1, k * 3 + 1, none⟩) (show w.heap.size ≤ w.heap.size + 1 + 1 by omega) (.int .u32 hk')).setCell (p := ⟨w.heap.size + 1 + 1, k * 3 + 2, none⟩) (show w.heap.size ≤ w.heap.size + 1 + 1 by omega) (.int .i32 (k : Nat))).drew)
      have mapc : ∀ (j : Nat) (v : Value), W7.cell? ⟨w.heap.size, j, none⟩ = some v → (((W7.setCell ⟨w.heap.size + 1 + 1, k * 3, none⟩ (.int .u32 lk)).setCell ⟨w.heap.size + 1 + 1, k * 3 + 1, none⟩ (.int .u32 hk')).setCell ⟨w.heap.size + 1 + 1, k * 3 + 2, none⟩ (.int .i32 (k : Nat))).drew.cell? ⟨w.heap.size, j, none⟩ = some v := fun j v hv => by
        show (((W7.setCell ⟨w.heap.size + 1 + 1, k * 3, none⟩ (.int .u32 lk)).setCell ⟨w.heap.size + 1 + 1, k * 3 + 1, none⟩ (.int .u32 hk')).setCell ⟨w.heap.size + 1 + 1, k * 3 + 2, none⟩ (.int .i32 (k : Nat))).cell? ⟨w.heap.size, j, none⟩ = some v
        rw [cell_other (a := ⟨w.heap.size + 1 + 1, k * 3 + 2, none⟩) (b := ⟨w.heap.size, j, none⟩) (by intro g; injection g with g1 _ _; omega), cell_other (a := ⟨w.heap.size + 1 + 1, k * 3 + 1, none⟩) (b := ⟨w.heap.size, j, none⟩) (by intro g; injection g with g1 _ _; omega), cell_other (a := ⟨w.heap.size + 1 + 1, k * 3, none⟩) (b := ⟨w.heap.size, j, none⟩) (by intro g; injection g with g1 _ _; omega)]
        exact hv
      have I1 := hide (mapc 261 _ J1.out)
      have I2 := hide (mapc 262 _ J2.out)
      have I3 := hide (mapc 263 _ J3.out)
      clear mapc HX7 HL7 HS7 J1 J2 J3 j2 d0 d1 d2 f0 f1 f2 hs2 c0 c1
      generalize (((W7.setCell ⟨w.heap.size + 1 + 1, k * 3, none⟩ (.int .u32 lk)).setCell ⟨w.heap.size + 1 + 1, k * 3 + 1, none⟩ (.int .u32 hk')).setCell ⟨w.heap.size + 1 + 1, k * 3 + 2, none⟩ (.int .i32 (k : Nat))).drew = W8 at *
      go_wp2_with fail
      go_roundw
      case rel => first | exact ⟨k + 1, by omega, by go_num, HX8, I1, I2, I3, HL8, HS8⟩ | ((repeat apply Exists.intro); exact ⟨⟨k + 1, by omega, by go_num, HX8, I1, I2, I3, HL8, HS8⟩, rfl⟩)
      case measure => (simp [intOf] <;> omega)
    · obtain rfl : k = n := by omega
      go_wp2_with fail
      go_ret
      exact ⟨rfl, HX.out, K1.out, K2.out, K3.out, part_all HL.out, part_all HS.out⟩
end Go.Proofs.Qxb6609343a
