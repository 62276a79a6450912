import Derived.Test.Qxb6609285aDoorWalkI
namespace Go.Proofs.Qxb6609285aDoor
open Go.RowKit Go.Proofs
set_option linter.unusedVariables false
set_option linter.unusedSimpArgs false

/-- A rule's own verdict, as the filter has it. -/
def genM (b m v : Int) (neq : Bool) : Bool := (bits BinOp.and IntKind.u8 b m == bits BinOp.and IntKind.u8 v m) != neq

set_option maxRecDepth 100000 in
set_option maxHeartbeats 1000000 in
theorem matchesBytes_any (rb o d : Nat) (fwd neq more : Bool) (off mb vb : Nat) (m v : Int) (a0 : Option Addr) (b0 o0 fl k0 : Nat) (F : Nat → Int) (w : World) (hoff : off < 65536) (hfl : fl ≤ 1048576)
    (hr : CellsAt w rb o (ruleG d fwd off mb vb neq more)) (hm : w.cell? ⟨mb, 0, none⟩ = some (.int .u8 m)) (hv : w.cell? ⟨vb, 0, none⟩ = some (.int .u8 v)) (s0 : Slc w a0 b0 o0 fl (fun i => .int .u8 (F i))) :
    Calls Tryd.prog 27 #[.pointer (some ⟨rb, o, none⟩), .slice a0 fl k0] w fun e w' => e = .returned (.bool (bits BinOp.and IntKind.u8 (byteAt fl F off) m == bits BinOp.and IntKind.u8 v m)) ∧ w' = w := by
  have r13 := hr 13 _ rfl
  have r14 := hr 14 _ rfl
  have r15 := hr 15 _ rfl
  clear hr
  have S0 := hide s0
  clear s0
  have hb : Hid ((off < fl ∧ byteAt fl F off = F off) ∨ (¬ off < fl ∧ byteAt fl F off = 0)) := by
    by_cases h : off < fl
    · exact .inl ⟨h, by simp [byteAt, h]⟩
    · exact .inr ⟨h, by simp [byteAt, h]⟩
  generalize hbt : byteAt fl F off = bt at *
  clear hbt
  cases heq : (bits BinOp.and IntKind.u8 bt m == bits BinOp.and IntKind.u8 v m)
  · have hne : (bits BinOp.and IntKind.u8 bt m != bits BinOp.and IntKind.u8 v m) = true := by rw [bne, heq]; rfl
    rcases hb.out with ⟨h, rfl⟩ | ⟨h, rfl⟩
    · obtain rfl := S0.out.ad (by omega)
      have c0 := S0.out.cell off h
      have hi : (off : Int) < fl := by omega
      go_enter Tryd.func27, Tryd.ntmps27
      go_wp2
      go_loopw [14] (fun i wr => i = .int .i64 0 ∧ wr = w) (fun i _ => 0)
      case atStart => exact ⟨rfl, rfl⟩
      case round =>
        obtain ⟨rfl, rfl⟩ := hrel
        go_wp2
        go_ret
        exact ⟨rfl, rfl⟩
    · have hi : ¬ (off : Int) < fl := by omega
      go_enter Tryd.func27, Tryd.ntmps27
      go_wp2
      go_loopw [14] (fun i wr => i = .int .i64 0 ∧ wr = w) (fun i _ => 0)
      case atStart => exact ⟨rfl, rfl⟩
      case round =>
        obtain ⟨rfl, rfl⟩ := hrel
        go_wp2
        go_ret
        exact ⟨rfl, rfl⟩
  · have hne : (bits BinOp.and IntKind.u8 bt m != bits BinOp.and IntKind.u8 v m) = false := by rw [bne, heq]; rfl
    rcases hb.out with ⟨h, rfl⟩ | ⟨h, rfl⟩
    · obtain rfl := S0.out.ad (by omega)
      have c0 := S0.out.cell off h
      have hi : (off : Int) < fl := by omega
      go_enter Tryd.func27, Tryd.ntmps27
      go_wp2
      go_loopw [14] (fun i wr => ∃ k : Nat, k ≤ 1 ∧ i = .int .i64 k ∧ wr = w) (fun i _ => 1 - (intOf i).toNat)
      case atStart => exact ⟨0, by omega, rfl, rfl⟩
      case round =>
        obtain ⟨k, hk, rfl, hw⟩ := hrel
        obtain rfl : w = wr := hw.symm
        clear hw
        rcases (show k = 0 ∨ k = 1 by omega) with rfl | rfl
        · go_wp2
          go_roundw
          case rel => exact ⟨1, by omega, by go_num, by trivial⟩
          case measure => (simp [intOf] <;> omega)
        · go_wp2
          go_ret
          exact ⟨rfl, rfl⟩
    · have hi : ¬ (off : Int) < fl := by omega
      go_enter Tryd.func27, Tryd.ntmps27
      go_wp2
      go_loopw [14] (fun i wr => ∃ k : Nat, k ≤ 1 ∧ i = .int .i64 k ∧ wr = w) (fun i _ => 1 - (intOf i).toNat)
      case atStart => exact ⟨0, by omega, rfl, rfl⟩
      case round =>
        obtain ⟨k, hk, rfl, hw⟩ := hrel
        obtain rfl : w = wr := hw.symm
        clear hw
        rcases (show k = 0 ∨ k = 1 by omega) with rfl | rfl
        · go_wp2
          go_roundw
          case rel => exact ⟨1, by omega, by go_num, by trivial⟩
          case measure => (simp [intOf] <;> omega)
        · go_wp2
          go_ret
          exact ⟨rfl, rfl⟩

/-- The packet of the generic laws: a frame alone. -/
def pktF (a0 : Option Addr) (fl k0 : Nat) : List Value := [.slice a0 fl k0, .bool false, .int .u32 0, .int .u32 0, .int .u8 0, .bool false, .int .u16 0, .int .u16 0, .bool false, .int .u8 0]

set_option maxRecDepth 100000 in
set_option maxHeartbeats 1000000 in
theorem matchesG (rb o d pb : Nat) (fwd neq more : Bool) (off mb vb : Nat) (m v : Int) (a0 : Option Addr) (b0 o0 fl k0 : Nat) (F : Nat → Int) (w : World) (hoff : off < 65536) (hfl : fl ≤ 1048576)
    (hr : CellsAt w rb o (ruleG d fwd off mb vb neq more)) (hm : w.cell? ⟨mb, 0, none⟩ = some (.int .u8 m)) (hv : w.cell? ⟨vb, 0, none⟩ = some (.int .u8 v)) (s0 : Slc w a0 b0 o0 fl (fun i => .int .u8 (F i))) (hp : CellsAt w pb 0 (pktF a0 fl k0)) :
    Calls Tryd.prog 19 #[.pointer (some ⟨rb, o, none⟩), .pointer (some ⟨pb, 0, none⟩)] w fun e w' => e = .returned (.bool (genM (byteAt fl F off) m v neq)) ∧ Ext w w' := by
  have r2 := hr 2 _ rfl
  have r16 := hr 16 _ rfl
  have p0 := hp 0 _ rfl
  rw [Nat.add_zero] at p0
  have HB := hide (fun nq => matchesBytes_any rb o d fwd neq more off mb vb m v a0 b0 o0 fl k0 F (w.drewN nq) hoff hfl hr hm hv ⟨s0.ad, s0.cell⟩)
  clear hr hm hv s0 hp
  unfold genM
  generalize (bits BinOp.and IntKind.u8 (byteAt fl F off) m == bits BinOp.and IntKind.u8 v m) = bb at *
  go_enter Tryd.func19, Tryd.ntmps19
  go_wp2
  go_quiet ((go_at_call 27; exact Calls.quiet_of_same (HB.out _)))
  go_wp2
  go_ret
  exact ⟨rfl, (Ext.refl w).drewN _⟩
end Go.Proofs.Qxb6609285aDoor
