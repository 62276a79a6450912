import Derived.Test.Qxb6609285aDoorWalkC
import Derived.Lib.QuietBelow
namespace Go.Proofs.Qxb6609285aDoor
open Go.RowKit Go.Proofs
set_option linter.unusedVariables false
set_option linter.unusedSimpArgs false

theorem Ext.drewN {a b : World} (h : Ext a b) (n : Nat) : Ext a (b.drewN n) := below_drewN h n
/-- A row of cells. -/
def CellsAt (w : World) (b o : Nat) (vs : List Value) : Prop := ∀ i v, vs[i]? = some v → w.cell? ⟨b, o + i, none⟩ = some v
theorem CellsAt.ext {w w' : World} {b o : Nat} {vs : List Value} (h : CellsAt w b o vs) (k : Ext w w') : CellsAt w' b o vs := fun i v hv => k.cell (h i v hv)

/-- The address x lies in the network a/b. -/
def inPfx (a x b : Int) : Bool := b == 0 || (bits BinOp.xor IntKind.u32 x a / 2 ^ (32 - b).toNat == 0)

theorem contains_zero (a x : Int) (w : World) : Calls Tryd.prog 28 #[.agg #[.int .u32 a, .int .u8 0], .int .u32 x] w fun e w' => e = .returned (.bool true) ∧ Ext w w' := by
  go_enter Tryd.func28, Tryd.ntmps28
  go_wp2
  go_ret
  exact ⟨rfl, (Ext.refl w).alloc _⟩

theorem contains_some (a x b : Int) (w : World) (h0 : (b == 0) = false) (h1 : 0 < b) (h2 : b ≤ 32) : Calls Tryd.prog 28 #[.agg #[.int .u32 a, .int .u8 b], .int .u32 x] w fun e w' => e = .returned (.bool (bits BinOp.xor IntKind.u32 x a / 2 ^ (32 - b).toNat == 0)) ∧ Ext w w' := by
  go_enter Tryd.func28, Tryd.ntmps28
  go_wp2
  go_ret
  exact ⟨rfl, (Ext.refl w).alloc _⟩

theorem contains_any (a x b : Int) (w : World) (h1 : 0 ≤ b) (h2 : b ≤ 32) : Calls Tryd.prog 28 #[.agg #[.int .u32 a, .int .u8 b], .int .u32 x] w fun e w' => e = .returned (.bool (inPfx a x b)) ∧ Ext w w' := by
  by_cases h : b = 0
  · subst h; exact contains_zero a x w
  · have e : (b == 0) = false := by simpa using h
    have := contains_some a x b w e (by omega) h2
    unfold inPfx
    rw [e]
    exact this

def ruleIP (fwd : Bool) (src b : Int) : List Value := [.int .u8 0, .bool fwd, .bool false, .int .u32 src, .int .u8 b, .int .u32 0, .int .u8 0, .int .u8 0, .int .u8 0, .int .u16 0, .int .u8 0, .int .u16 0, .bool false, .int .u16 0, .slice none 0 0, .slice none 0 0, .bool false, .bool false]
def pktIP (ip : Bool) (x : Int) : List Value := [.slice none 0 0, .bool ip, .int .u32 x, .int .u32 0, .int .u8 0, .bool false, .int .u16 0, .int .u16 0, .bool false, .int .u8 0]

set_option maxHeartbeats 1000000 in
theorem matches_noip (rb o pb : Nat) (fwd : Bool) (src b x : Int) (w : World) (hr : CellsAt w rb o (ruleIP fwd src b)) (hp : CellsAt w pb 0 (pktIP false x)) :
    Calls Tryd.prog 19 #[.pointer (some ⟨rb, o, none⟩), .pointer (some ⟨pb, 0, none⟩)] w fun e w' => e = .returned (.bool false) ∧ Ext w w' := by
  have r2 := hr 2 _ rfl
  have p1 := hp 1 _ rfl
  simp only [Nat.zero_add] at p1
  clear hr hp
  go_enter Tryd.func19, Tryd.ntmps19
  go_wp2
  go_quiet (fail)
  go_wp2
  go_ret
  exact ⟨rfl, (Ext.refl w).drewN _⟩

theorem regrown_ext {w : World} (d : Nat) (os : Array Obj) : Ext w (Go.Sort.grow (redrawn w d) os) := below_regrown w d os

set_option maxRecDepth 100000 in
set_option maxHeartbeats 1000000 in
theorem matches_out (rb o pb : Nat) (fwd : Bool) (src b x : Int) (w : World) (h1 : 0 ≤ b) (h2 : b ≤ 32) (hr : CellsAt w rb o (ruleIP fwd src b)) (hp : CellsAt w pb 0 (pktIP true x)) (hin : inPfx src x b = false) :
    Calls Tryd.prog 19 #[.pointer (some ⟨rb, o, none⟩), .pointer (some ⟨pb, 0, none⟩)] w fun e w' => e = .returned (.bool false) ∧ Ext w w' := by
  have r2 := hr 2 _ rfl
  have r3 := cell_regrown (hr 3 _ rfl)
  have r4 := cell_regrown (hr 4 _ rfl)
  have p1 := cell_regrown (hp 1 _ rfl)
  have p2 := cell_regrown (hp 2 _ rfl)
  simp only [Nat.zero_add] at p1 p2
  have hc := fun w1 => contains_any src x b w1 h1 h2
  rw [hin] at hc
  have HC := hide hc
  clear hr hp hc hin
  go_enter Tryd.func19, Tryd.ntmps19
  go_wp2
  refine wp_region_quiet_below (by kernel_rfl) (by kernel_rfl) ?_
  repeat (go_big_quiet_step (exact Calls.regrown_of (HC.out _)))
  refine wpQuiet_nil ?_
  intro _ hw'
  obtain ⟨⟨dq, osq⟩, hw''⟩ := hw'
  subst hw''
  go_wp2
  go_ret
  exact ⟨rfl, regrown_ext dq osq⟩

set_option maxRecDepth 100000 in
set_option maxHeartbeats 1000000 in
theorem matches_in (rb o pb : Nat) (fwd : Bool) (src b x : Int) (w : World) (h1 : 0 ≤ b) (h2 : b ≤ 32) (hr : CellsAt w rb o (ruleIP fwd src b)) (hp : CellsAt w pb 0 (pktIP true x)) (hin : inPfx src x b = true) :
    Calls Tryd.prog 19 #[.pointer (some ⟨rb, o, none⟩), .pointer (some ⟨pb, 0, none⟩)] w fun e w' => e = .returned (.bool true) ∧ Ext w w' := by
  have r2 := hr 2 _ rfl
  have r3 := cell_regrown (hr 3 _ rfl)
  have r4 := cell_regrown (hr 4 _ rfl)
  have r5 := cell_regrown (hr 5 _ rfl)
  have r6 := cell_regrown (hr 6 _ rfl)
  have r7 := cell_regrown (hr 7 _ rfl)
  have r8 := cell_regrown (hr 8 _ rfl)
  have r10 := cell_regrown (hr 10 _ rfl)
  have r12 := cell_regrown (hr 12 _ rfl)
  have p1 := cell_regrown (hp 1 _ rfl)
  have p2 := cell_regrown (hp 2 _ rfl)
  have p3 := cell_regrown (hp 3 _ rfl)
  simp only [Nat.zero_add] at p1 p2 p3
  have hc := fun w1 => contains_any src x b w1 h1 h2
  rw [hin] at hc
  have HC := hide hc
  clear hr hp hc hin
  go_enter Tryd.func19, Tryd.ntmps19
  go_wp2
  refine wp_region_quiet_below (by kernel_rfl) (by kernel_rfl) ?_
  repeat (go_big_quiet_step (first | (go_at_call_of 28 (Value.int IntKind.u32 src); exact Calls.regrown_of (HC.out _)) | exact Calls.regrown_of (contains_zero 0 0 _)))
  refine wpQuiet_nil ?_
  intro _ hw'
  obtain ⟨⟨dq, osq⟩, hw''⟩ := hw'
  subst hw''
  replace r7 := r7 dq osq
  replace r8 := r8 dq osq
  replace r10 := r10 dq osq
  replace r12 := r12 dq osq
  clear r3 r4 r5 r6 p1 p2 p3
  have HX := hide (regrown_ext (w := w) dq osq)
  generalize Go.Sort.grow (redrawn w dq) osq = w1 at *
  go_wp2
  go_quiet (fail)
  go_wp2
  go_quiet (fail)
  go_wp2
  go_quiet (fail)
  go_wp2
  go_ret
  exact ⟨rfl, HX.out.drewN _⟩

/-- An IP rule matches an IPv4 packet from its source network. -/
theorem matches_ip (rb o pb : Nat) (fwd ip : Bool) (src b x : Int) (w : World) (h1 : 0 ≤ b) (h2 : b ≤ 32) (hr : CellsAt w rb o (ruleIP fwd src b)) (hp : CellsAt w pb 0 (pktIP ip x)) :
    Calls Tryd.prog 19 #[.pointer (some ⟨rb, o, none⟩), .pointer (some ⟨pb, 0, none⟩)] w fun e w' => e = .returned (.bool (ip && inPfx src x b)) ∧ Ext w w' := by
  cases ip
  · exact matches_noip rb o pb fwd src b x w hr hp
  · cases hin : inPfx src x b
    · exact matches_out rb o pb fwd src b x w h1 h2 hr hp hin
    · exact matches_in rb o pb fwd src b x w h1 h2 hr hp hin

theorem new_any (s : ByteArray) (w : World) : Calls Tryd.prog 22 #[.string s] w fun e w' => e = .returned (.iface 93 (.pointer (some ⟨w.heap.size, 0, none⟩))) ∧ Ext w w' := by
  go_enter Tryd.func22, Tryd.ntmps22
  go_wp2
  go_ret
  exact ⟨rfl, (Ext.refl w).alloc _⟩

set_option maxHeartbeats 1000000 in
/-- Check of an IP rule whose source network is too long. -/
theorem check_bad (rb o : Nat) (fwd : Bool) (src b : Int) (w : World) (h1 : 32 < b) (hr : CellsAt w rb o (ruleIP fwd src b)) :
    Calls Tryd.prog 21 #[.pointer (some ⟨rb, o, none⟩)] w fun e w' => (∃ p, e = .returned (.iface 93 (.pointer (some p)))) ∧ Ext w w' := by
  have r0 := hr 0 _ rfl
  have r2 := hr 2 _ rfl
  have r4 := hr 4 _ rfl
  rw [Nat.add_zero] at r0
  clear hr
  go_enter Tryd.func21, Tryd.ntmps21
  go_wp2_with (go_at_call 22; refine (new_any _ _).mono ?_; rintro e w' ⟨rfl, hx⟩)
  go_ret
  exact ⟨⟨_, rfl⟩, hx⟩

set_option maxHeartbeats 1000000 in
/-- Check of an IP rule that is good. -/
theorem check_good (rb o : Nat) (fwd : Bool) (src b : Int) (w : World) (h1 : b ≤ 32) (hr : CellsAt w rb o (ruleIP fwd src b)) :
    Calls Tryd.prog 21 #[.pointer (some ⟨rb, o, none⟩)] w fun e w' => e = .returned .nilIface ∧ Ext w w' := by
  have r0 := hr 0 _ rfl
  have r2 := hr 2 _ rfl
  have r4 := hr 4 _ rfl
  have r6 := hr 6 _ rfl
  have r8 := hr 8 _ rfl
  have r10 := hr 10 _ rfl
  have r12 := hr 12 _ rfl
  have r17 := hr 17 _ rfl
  rw [Nat.add_zero] at r0
  clear hr
  go_enter Tryd.func21, Tryd.ntmps21
  go_wp2_with fail
  go_ret
  exact ⟨rfl, Ext.refl w⟩

end Go.Proofs.Qxb6609285aDoor
