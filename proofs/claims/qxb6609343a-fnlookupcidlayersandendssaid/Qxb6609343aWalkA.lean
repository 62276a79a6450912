/- The law's own helpers: scan, split. -/
import Derived.Test.Qxb6609343aBase
namespace Go.Proofs.Qxb6609343a
open Go.RowKit Go.Proofs
set_option linter.unusedVariables false
set_option linter.unusedSimpArgs false

/-- What a lookup of a code among ranges answers. -/
def LookIs (n : Nat) (lo hi cid : Nat → Nat) (code v : Nat) (ok : Bool) : Prop :=
  (∃ i, i < n ∧ lo i ≤ code ∧ code ≤ hi i ∧ v = (cid i + (code - lo i)) % 4294967296 ∧ ok = true) ∨ ((∀ i, i < n → ¬ (lo i ≤ code ∧ code ≤ hi i)) ∧ v = 0 ∧ ok = false)

theorem ord_lt {n : Nat} {lo hi : Nat → Nat} (h : Ord n lo hi) (i : Nat) : ∀ j, i < j → j < n → hi i < lo j
  | 0, hij, _ => by omega
  | j + 1, hij, hj => by
    have h1 := (h (j + 1) hj).2 (by omega)
    simp only [Nat.add_sub_cancel] at h1
    by_cases e : i = j
    · subst e; exact h1
    · have h2 := ord_lt h i j (by omega) (by omega)
      have h3 := (h j (by omega)).1
      omega
theorem ord_one {n : Nat} {lo hi : Nat → Nat} (h : Ord n lo hi) {i j code : Nat} (hi' : i < n) (hj : j < n) (h1 : lo i ≤ code) (h2 : code ≤ hi i) (h3 : lo j ≤ code) (h4 : code ≤ hi j) : i = j := by
  rcases Nat.lt_trichotomy i j with g | g | g
  · have := ord_lt h i j g hj; omega
  · exact g
  · have := ord_lt h j i g hi'; omega
theorem LookIs.unique {n : Nat} {lo hi cid : Nat → Nat} {code v v' : Nat} {ok ok' : Bool} (h : Ord n lo hi) (a : LookIs n lo hi cid code v ok) (b : LookIs n lo hi cid code v' ok') : v = v' ∧ ok = ok' := by
  rcases a with ⟨i, h1, h2, h3, rfl, rfl⟩ | ⟨h1, rfl, rfl⟩ <;> rcases b with ⟨j, k1, k2, k3, rfl, rfl⟩ | ⟨k1, rfl, rfl⟩
  · obtain rfl := ord_one h h1 k1 h2 h3 k2 k3; exact ⟨rfl, rfl⟩
  · exact absurd ⟨h2, h3⟩ (k1 i h1)
  · exact absurd ⟨k2, k3⟩ (h1 j k1)
  · exact ⟨rfl, rfl⟩

theorem wrap_mod (x y : Nat) : IntKind.u32.wrap ((x : Int) + (y : Int)) = (((x + y) % 4294967296 : Nat) : Int) := by
  rw [IntKind.wrap_u32]; omega

set_option maxHeartbeats 1000000 in
theorem scan_any (n cap b o code : Nat) (a : Option Addr) (lo hi cid : Nat → Nat) (w : World) (hn : n ≤ 32768) (hcode : code < 4294967296) (hcid : ∀ i, cid i < 4294967296) (s : Ms w a b o n lo hi cid) :
    Calls Try.prog 13 #[.slice a n cap, .int .u32 code] w fun e w' => ∃ (v : Nat) (ok : Bool), e = .returned (.tuple #[.int .u32 v, .bool ok]) ∧ LookIs n lo hi cid code v ok ∧ Ext w w' := by
  have S := hide s
  have HCid := hide hcid
  clear s hcid
  go_enter Try.func13, Try.ntmps13
  go_wp2_with fail
  go_loopw [6] (fun x wr => ∃ k : Nat, k ≤ n ∧ x = .int .i64 k ∧ wr = w ∧ Hid (∀ i, i < k → ¬ (lo i ≤ code ∧ code ≤ hi i))) (fun x _ => n - (intOf x).toNat)
  case atStart => exact ⟨0, by omega, rfl, rfl, fun i hi => absurd hi (by omega)⟩
  case round =>
    obtain ⟨k, hk, rfl, hwr, HN⟩ := hrel
    obtain rfl : w = wr := hwr.symm
    clear hwr
    by_cases hlt : k < n
    · have hlti : (k : Int) < n := by omega
      have had := S.out.ad (by omega)
      subst had
      have c0 := S.out.lo k hlt
      have c1 := S.out.hi k hlt
      have c2 := S.out.cid k hlt
      by_cases h1 : lo k ≤ code
      · by_cases h2 : code ≤ hi k
        · have HL : Hid (LookIs n lo hi cid code ((cid k + (code - lo k)) % 4294967296) true) := .inl ⟨k, hlt, h1, h2, rfl, rfl⟩
          have hc := HCid.out k
          generalize lo k = lk at *
          generalize hi k = hk' at *
          generalize cid k = ck at *
          have h1i : (lk : Int) ≤ (code : Int) := by omega
          have h2i : (code : Int) ≤ (hk' : Int) := by omega
          obtain ⟨df, hdf⟩ : ∃ df : Nat, (code : Int) - (lk : Int) = (df : Int) ∧ df = code - lk := ⟨code - lk, by omega, rfl⟩
          have hdi := hdf.1
          go_wp2_with fail
          go_quiet (fail)
          go_wp2_with fail
          go_ret2
          refine ⟨_, true, ?_, HL.out, (Ext.refl _).drewN _⟩
          rw [show (((ck + (code - lk)) % 4294967296 : Nat) : Int) = ((ck : Int) + ((code - lk : Nat) : Int)) % 4294967296 by omega]
          rfl
        · have HN2 : Hid (∀ i, i < k + 1 → ¬ (lo i ≤ code ∧ code ≤ hi i)) := fun i hi' => by
            by_cases e : i = k
            · subst e; exact fun h => h2 h.2
            · exact HN.out i (by omega)
          generalize lo k = lk at *
          generalize hi k = hk' at *
          have h1i : (lk : Int) ≤ (code : Int) := by omega
          have h2i : ¬ (code : Int) ≤ (hk' : Int) := by omega
          go_wp2_with fail
          go_roundw
          case rel => exact ⟨k + 1, by omega, by go_num, by trivial, HN2⟩
          case measure => (simp [intOf] <;> omega)
      · have HN2 : Hid (∀ i, i < k + 1 → ¬ (lo i ≤ code ∧ code ≤ hi i)) := fun i hi' => by
          by_cases e : i = k
          · subst e; exact fun h => h1 h.1
          · exact HN.out i (by omega)
        generalize lo k = lk at *
        generalize hi k = hk' at *
        have h1i : ¬ (lk : Int) ≤ (code : Int) := by omega
        go_wp2_with fail
        go_roundw
        case rel => exact ⟨k + 1, by omega, by go_num, by trivial, HN2⟩
        case measure => (simp [intOf] <;> omega)
    · go_wp2_with fail
      go_ret2
      exact ⟨0, false, rfl, .inr ⟨fun i hi' => HN.out i (by omega), rfl, rfl⟩, Ext.refl _⟩

/-- A row of numbers that the call has laid. -/
structure U32 (w : World) (b n : Nat) (f : Nat → Nat) : Prop where
  cell : ∀ i, i < n → w.cell? ⟨b, i, none⟩ = some (.int .u32 (f i))
  free : ∀ i, i < n → w.frozen? ⟨b, i, none⟩ = false

theorem info26 : (Try.prog.info? 26).map (fun i => (i.zero, i.size, i.bytes)) = some (some (.int .u32 0), 1, 4) := by kernel_rfl
theorem info_of {P : Program} {t : TypeId} {z : Value} {s b : Nat} (h : (P.info? t).map (fun i => (i.zero, i.size, i.bytes)) = some (some z, s, b)) : ∃ i, P.info? t = some i ∧ i.zero = some z ∧ i.size = s ∧ i.bytes = b := by
  cases hi : P.info? t with
  | none => rw [hi] at h; cases h
  | some i =>
    rw [hi] at h
    simp only [Option.map_some, Option.some.injEq, Prod.mk.injEq] at h
    exact ⟨i, rfl, h.1, h.2.1, h.2.2⟩
theorem made_get (z : Array Value) (n i : Nat) (hi : i < n) : (madeCells z n)[i]? = some z[i % z.size]! := by
  simp [madeCells, hi]
/-- make([]uint32, n). -/
theorem make29 (n : Nat) (hn : n ≤ 32768) (w : World) : (Instr.makeSlice 29 (.int .i64 n) (.int .i64 n)).run Try.prog w = .ok (.slice (some ⟨w.heap.size, 0, none⟩) n n) (w.alloc (.cells (madeCells #[.int .u32 0] n) 26)) := by
  obtain ⟨i, hi, hz, hs, hb⟩ := info_of info26
  have := run_make (P := Try.prog) w 29 26 i (.int .u32 0) Try.underlying29 hi hz .i64 .i64 n n (by omega) (by omega) (by rw [hb]; omega) (by omega)
  rw [hs, Nat.mul_one] at this
  exact this
theorem U32.new (w : World) (n : Nat) : U32 (w.alloc (.cells (madeCells #[.int .u32 0] n) 26)) w.heap.size n (fun _ => 0) := by
  refine ⟨fun i hi => ?_, fun i hi => World.frozen?_alloc_at _ _ _ _ rfl⟩
  rw [World.cell?_alloc_at _ _ _ _ rfl]
  show (madeCells #[.int .u32 0] n)[i]? = _
  rw [made_get _ _ _ hi]
  simp [Nat.mod_one]
theorem U32.ext {w w' : World} {b n : Nat} {f : Nat → Nat} (h : U32 w b n f) (k : Ext w w') : U32 w' b n f := ⟨fun i hi => k.cell (h.cell i hi), fun i hi => k.frozen (h.cell i hi) (h.free i hi)⟩
theorem U32.set {w : World} {b n k : Nat} {f g : Nat → Nat} (h : U32 w b n f) (hk : k < n) (hg : ∀ j, j < n → g j = if j = k then g k else f j) : U32 (w.setCell ⟨b, k, none⟩ (.int .u32 (g k))) b n g := by
  refine ⟨fun j hj => ?_, fun j hj => by rw [World.frozen?_setCell]; exact h.free j hj⟩
  by_cases e : j = k
  · subst e; exact cell_same (h.cell j hj)
  · rw [cell_other (a := ⟨b, k, none⟩) (b := ⟨b, j, none⟩) (by intro g; injection g with _ g2 _; omega), h.cell j hj, hg j hj, if_neg e]
theorem U32.other {w : World} {b c k n : Nat} {f : Nat → Nat} {v : Value} (h : U32 w b n f) (hc : c ≠ b) : U32 (w.setCell ⟨c, k, none⟩ v) b n f :=
  ⟨fun j hj => by rw [cell_other (a := ⟨c, k, none⟩) (b := ⟨b, j, none⟩) (by intro g; injection g with g1 _ _; exact hc g1)]; exact h.cell j hj, fun j hj => by rw [World.frozen?_setCell]; exact h.free j hj⟩
/-- The first k numbers are laid, the rest are zero. -/
def upTo (f : Nat → Nat) (k : Nat) : Nat → Nat := fun i => if i < k then f i else 0

set_option maxHeartbeats 1000000 in
theorem split_any (n cap b o : Nat) (a : Option Addr) (lo hi cid : Nat → Nat) (w : World) (hn : n ≤ 32768) (s : Ms w a b o n lo hi cid) :
    Calls Try.prog 10 #[.slice a n cap] w fun e w' => e = .returned (.tuple #[.slice (some ⟨w.heap.size, 0, none⟩) n n, .slice (some ⟨w.heap.size + 1, 0, none⟩) n n, .slice (some ⟨w.heap.size + 2, 0, none⟩) n n]) ∧
      U32 w' w.heap.size n lo ∧ U32 w' (w.heap.size + 1) n hi ∧ U32 w' (w.heap.size + 2) n cid ∧ Ext w w' := by
  have S := hide s
  clear s
  have hmk := make29 n hn
  go_enter Try.func10, Try.ntmps10
  go_wp2_with fail
  obtain ⟨W, hW⟩ : ∃ W, W = ((w.alloc (.cells (madeCells #[.int .u32 0] n) 26)).alloc (.cells (madeCells #[.int .u32 0] n) 26)).alloc (.cells (madeCells #[.int .u32 0] n) 26) := ⟨_, rfl⟩
  have HX : Hid (Ext w W) := by rw [hW]; exact (((Ext.refl _).alloc _).alloc _).alloc _
  have H0 : Hid (U32 W w.heap.size n (upTo lo 0)) := by
    rw [hW]; exact (U32.new w n).ext (((Ext.refl _).alloc _).alloc _)
  have H1 : Hid (U32 W (w.heap.size + 1) n (upTo hi 0)) := by
    have := U32.new (w.alloc (.cells (madeCells #[.int .u32 0] n) 26)) n
    rw [World.size_alloc] at this
    rw [hW]; exact this.ext ((Ext.refl _).alloc _)
  have H2 : Hid (U32 W (w.heap.size + 2) n (upTo cid 0)) := by
    have := U32.new ((w.alloc (.cells (madeCells #[.int .u32 0] n) 26)).alloc (.cells (madeCells #[.int .u32 0] n) 26)) n
    rw [World.size_alloc, World.size_alloc] at this
    rw [hW]; exact this
  rw [← hW]
  clear hW hmk
  go_loopw [8] (fun x wr => ∃ k : Nat, k ≤ n ∧ x = .int .i64 k ∧ Hid (Ext w wr) ∧ Hid (U32 wr w.heap.size n (upTo lo k)) ∧ Hid (U32 wr (w.heap.size + 1) n (upTo hi k)) ∧ Hid (U32 wr (w.heap.size + 2) n (upTo cid k))) (fun x _ => n - (intOf x).toNat)
  case atStart => exact ⟨0, by omega, rfl, HX, H0, H1, H2⟩
  case round =>
    clear HX H0 H1 H2
    obtain ⟨k, hk, rfl, HX, H0, H1, H2⟩ := hrel
    by_cases hlt : k < n
    · have hlti : (k : Int) < n := by omega
      have had := S.out.ad (by omega)
      subst had
      have c0 := HX.out.cell (S.out.lo k hlt)
      have c1 := HX.out.cell (S.out.hi k hlt)
      have c2 := HX.out.cell (S.out.cid k hlt)
      have hbw : b < w.heap.size := World.block_lt_of_cell? _ _ (S.out.lo k hlt)
      have d0 := H0.out.cell k hlt
      have d1 := H1.out.cell k hlt
      have d2 := H2.out.cell k hlt
      have f0 := H0.out.free k hlt
      have f1 := H1.out.free k hlt
      have f2 := H2.out.free k hlt
      have hs2 : w.heap.size + 2 < wr.heap.size := World.block_lt_of_cell? _ _ d2
      have hs1 : w.heap.size + 1 < wr.heap.size := by omega
      have hs0 : w.heap.size < wr.heap.size := by omega
      have hbwr : b < wr.heap.size := by omega
      have n0 : ¬ b = w.heap.size := by omega
      have n1 : ¬ b = w.heap.size + 1 := by omega
      have m0 : ¬ w.heap.size = b := by omega
      have m1 : ¬ w.heap.size + 1 = b := by omega
      have HX2 := hide (((HX.out.setCell (p := ⟨w.heap.size, k, none⟩) (Nat.le_refl _) (.int .u32 (lo k))).setCell (p := ⟨w.heap.size + 1, k, none⟩) (by show w.heap.size ≤ w.heap.size + 1; omega) (.int .u32 (hi k))).setCell (p := ⟨w.heap.size + 2, k, none⟩) (by show w.heap.size ≤ w.heap.size + 2; omega) (.int .u32 (cid k)))
      have st : ∀ f : Nat → Nat, ∀ j, j < n → upTo f (k + 1) j = if j = k then upTo f (k + 1) k else upTo f k j := fun f j hj => by
        unfold upTo
        by_cases e : j = k
        · subst e; simp
        · rw [if_neg e]
          by_cases g : j < k
          · rw [if_pos g, if_pos (by omega)]
          · rw [if_neg g, if_neg (by omega)]
      have ev : ∀ f : Nat → Nat, upTo f (k + 1) k = f k := fun f => by unfold upTo; rw [if_pos (by omega)]
      have G0 := hide (((H0.out.set (g := upTo lo (k + 1)) hlt (st lo)).other (c := w.heap.size + 1) (k := k) (v := .int .u32 (hi k)) (by omega)).other (c := w.heap.size + 2) (k := k) (v := .int .u32 (cid k)) (by omega))
      have G1 := hide (((H1.out.other (c := w.heap.size) (k := k) (v := .int .u32 (lo k)) (by omega)).set (g := upTo hi (k + 1)) hlt (st hi)).other (c := w.heap.size + 2) (k := k) (v := .int .u32 (cid k)) (by omega))
      have G2 := hide (((H2.out.other (c := w.heap.size) (k := k) (v := .int .u32 (lo k)) (by omega)).other (c := w.heap.size + 1) (k := k) (v := .int .u32 (hi k)) (by omega)).set (g := upTo cid (k + 1)) hlt (st cid))
      rw [ev] at G0 G1 G2
      clear st ev H0 H1 H2 S
      generalize lo k = lk at *
      generalize hi k = hk' at *
      generalize cid k = ck at *
      go_wp2_with fail
      go_roundw
      case rel => exact ⟨k + 1, by omega, by go_num, HX2, G0, G1, G2⟩
      case measure => (simp [intOf] <;> omega)
    · obtain rfl : k = n := by omega
      have ev : ∀ f : Nat → Nat, ∀ j, j < k → upTo f k j = f j := fun f j hj => by unfold upTo; rw [if_pos hj]
      have fin : ∀ {b' : Nat} {f : Nat → Nat}, U32 wr b' k (upTo f k) → U32 wr b' k f := fun h => ⟨fun i hi' => by rw [h.cell i hi', ev _ i hi'], h.free⟩
      go_wp2_with fail
      go_ret3
      exact ⟨rfl, fin H0.out, fin H1.out, fin H2.out, HX.out⟩
end Go.Proofs.Qxb6609343a
