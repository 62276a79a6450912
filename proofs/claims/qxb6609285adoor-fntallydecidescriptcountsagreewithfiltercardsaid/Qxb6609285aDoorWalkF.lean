import Derived.Test.Qxb6609285aDoorWalkE
namespace Go.Proofs.Qxb6609285aDoor
open Go.RowKit Go.Proofs
set_option linter.unusedVariables false
set_option linter.unusedSimpArgs false

set_option maxHeartbeats 1000000 in
/-- Add of a rule that fails Check. -/
theorem add_bad (fb d : Nat) (c1 c2 c3 c4 c5 c6 c7 c8 c9 c10 c11 c12 c13 c14 c15 c16 c17 : Value) (w : World)
    (hck : Hid (∀ rb w1, CellsAt w1 rb 0 [.int .u8 (d : Nat), c1, c2, c3, c4, c5, c6, c7, c8, c9, c10, c11, c12, c13, c14, c15, c16, c17] → Calls Tryd.prog 21 #[.pointer (some ⟨rb, 0, none⟩)] w1 fun e w' => (∃ p, e = .returned (.iface 93 (.pointer (some p)))) ∧ Ext w1 w')) :
    Calls Tryd.prog 16 #[.pointer (some ⟨fb, 0, none⟩), .agg #[.int .u8 (d : Nat), c1, c2, c3, c4, c5, c6, c7, c8, c9, c10, c11, c12, c13, c14, c15, c16, c17]] w fun e w' => (∃ p, e = .returned (.iface 93 (.pointer (some p)))) ∧ Ext w w' := by
  go_enter Tryd.func16, Tryd.ntmps16
  go_wp2_with (go_at_call 21; refine (hck.out _ _ (cells_new w _ [.int .u8 (d : Nat), c1, c2, c3, c4, c5, c6, c7, c8, c9, c10, c11, c12, c13, c14, c15, c16, c17] 63 (Ext.refl _))).mono ?_; rintro e w1 ⟨⟨p, rfl⟩, hx⟩)
  go_ret
  exact ⟨⟨p, rfl⟩, hx.new⟩

theorem info53 : (Tryd.prog.info? 53).isSome = true := by kernel_rfl
theorem neq_self (a : Addr) (w : World) : (binOp .neq 27 (.pointer (some a)) (.pointer (some a))).run Tryd.prog w = .ok (.bool false) w := by
  obtain ⟨j, hj⟩ := Option.isSome_iff_exists.1 info53
  exact Lib.run_neq_ptr_same w a (te := 53) (by kernel_rfl) hj

/-- The law's memory: the filter at the first new block, the tally behind it, the packet behind that. -/
structure St (w0 w : World) (c : Nat → Int) (v0 : Value) (ip : Bool) (x : Int) : Prop where
  bel : Below w0.heap.size w0 w
  tal : TallyAt w (w0.heap.size + 1) w0.heap.size c
  f0 : w.cell? ⟨w0.heap.size, 0, none⟩ = some v0
  z0 : w.frozen? ⟨w0.heap.size, 0, none⟩ = false
  f1 : w.cell? ⟨w0.heap.size, 1, none⟩ = some (.slice none 0 0)
  pk : CellsAt w (w0.heap.size + 1 + 1) 0 (pktIP ip x)

section
variable {w0 w w' : World} {c : Nat → Int} {v0 : Value} {ip : Bool} {x : Int}
theorem St.ext (h : St w0 w c v0 ip x) (k : Ext w w') : St w0 w' c v0 ip x :=
  ⟨h.bel.trans (Below.mono k h.bel.size), h.tal.ext k, k.cell h.f0, k.frozen h.f0 h.z0, k.cell h.f1, h.pk.ext k⟩
theorem St.bump (h : St w0 w c v0 ip x) (i : Nat) (hi : i < 26) (k : Ext (w.setCell ⟨w0.heap.size + 1, 1 + i, none⟩ (.int .u64 (c i + 1))) w') : St w0 w' (bump c i) v0 ip x := by
  refine St.ext (w := w.setCell ⟨w0.heap.size + 1, 1 + i, none⟩ (.int .u64 (c i + 1))) ⟨h.bel.setCell (Nat.le_succ _) _, h.tal.bump i hi, ?_, ?_, ?_, ?_⟩ k
  · rw [cell_other (a := ⟨w0.heap.size + 1, 1 + i, none⟩) (b := ⟨w0.heap.size, 0, none⟩) (by simp)]; exact h.f0
  · rw [World.frozen?_setCell]; exact h.z0
  · rw [cell_other (a := ⟨w0.heap.size + 1, 1 + i, none⟩) (b := ⟨w0.heap.size, 1, none⟩) (by simp)]; exact h.f1
  · intro j v hj
    rw [cell_other (a := ⟨w0.heap.size + 1, 1 + i, none⟩) (b := ⟨w0.heap.size + 1 + 1, 0 + j, none⟩) (by simp)]; exact h.pk j v hj
theorem St.add {v1 : Value} (h : St w0 w c v0 ip x) (k : (w.setCell ⟨w0.heap.size, 0, none⟩ v1).grownBy w' none) : St w0 w' c v1 ip x := by
  have k' : Ext (w.setCell ⟨w0.heap.size, 0, none⟩ v1) w' := ⟨k.os, k.tape, k.output, k.size, fun i hi => k.block i hi (by simp)⟩
  refine St.ext (w := w.setCell ⟨w0.heap.size, 0, none⟩ v1) ⟨h.bel.setCell (Nat.le_refl _) _, ⟨?_, ?_, ?_⟩, cell_same h.f0, ?_, ?_, ?_⟩ k'
  · rw [cell_other (a := ⟨w0.heap.size, 0, none⟩) (b := ⟨w0.heap.size + 1, 0, none⟩) (by simp)]; exact h.tal.f
  · intro i hi
    rw [cell_other (a := ⟨w0.heap.size, 0, none⟩) (b := ⟨w0.heap.size + 1, 1 + i, none⟩) (by simp)]; exact h.tal.cnt i hi
  · intro i hi
    rw [World.frozen?_setCell]; exact h.tal.free i hi
  · rw [World.frozen?_setCell]; exact h.z0
  · rw [cell_other (a := ⟨w0.heap.size, 0, none⟩) (b := ⟨w0.heap.size, 1, none⟩) (by simp)]; exact h.f1
  · intro j v hj
    rw [cell_other (a := ⟨w0.heap.size, 0, none⟩) (b := ⟨w0.heap.size + 1 + 1, 0 + j, none⟩) (by simp)]; exact h.pk j v hj
end

/-- The law's memory as it is made. -/
theorem St.start (w0 : World) (ip : Bool) (x : Int) :
    St w0 (((w0.alloc (.cells #[.slice none 0 0, .slice none 0 0] 53)).alloc (.cells (#[.pointer (some ⟨w0.heap.size, 0, none⟩)] ++ Array.replicate 26 (.int .u64 0)) 76)).alloc
      (.cells #[.slice none 0 0, .bool ip, .int .u32 x, .int .u32 0, .int .u8 0, .bool false, .int .u16 0, .int .u16 0, .bool false, .int .u8 0] 42)) (fun _ => 0) (.slice none 0 0) ip x := by
  refine ⟨(((Below.refl _ _).alloc (Nat.le_refl _) _).alloc (by simp) _).alloc (by simp; omega) _, ⟨?_, ?_, ?_⟩, ?_, ?_, ?_, ?_⟩
  · simp [go_sem]
  · intro i hi
    simp [go_sem]
    rw [Array.getElem?_append_right (by simp)]
    simp [Array.getElem?_replicate, hi]
  · intro i hi
    simp [go_sem]
  · simp [go_sem]
  · simp [go_sem]
  · simp [go_sem]
  · intro i v hv
    simp [go_sem]
    simpa [pktIP] using hv

theorem dec_nil {m more fwd : Nat → Bool} {b : Bool} {r : Nat} (h : IsDec 0 m more fwd b r) : b = true ∧ r = 0 :=
  h.unique (b' := true) (r' := 0) (.inr ⟨fun i hi => absurd hi (by omega), rfl, rfl⟩)
theorem dec_one_hit {m more fwd : Nat → Bool} {b : Bool} {r : Nat} (h : IsDec 1 m more fwd b r) (hm : m 0 = true) : b = fwd 0 ∧ r = 1 :=
  h.unique (b' := fwd 0) (r' := 1) (.inl ⟨0, by omega, .inl rfl, fun j _ h2 _ => by (obtain rfl : j = 0 := by omega); exact hm, fun j hj => absurd hj (by omega), rfl, rfl⟩)
theorem dec_one_miss {m more fwd : Nat → Bool} {b : Bool} {r : Nat} (h : IsDec 1 m more fwd b r) (hm : m 0 = false) : b = false ∧ r = 0 :=
  h.unique (b' := false) (r' := 0) (.inr ⟨fun i hi _ ho => by (obtain rfl : i = 0 := by omega); have := ho 0 (by omega) (by omega) (fun l h1 h2 => absurd h2 (by omega)); exact Bool.noConfusion (hm.symm.trans this), rfl, rfl⟩)

/-- The filter with one IP rule, as Add leaves it, decides as the rule matches. -/
theorem decC_one {w0 w : World} {c : Nat → Int} {g cap base : Nat} {ip fwd : Bool} {src bits x : Int} (h : St w0 w c (.slice (some ⟨g, 0, none⟩) 1 cap) ip x)
    (ho : w.ownsRow base 63 18 (.slice (some ⟨g, 0, none⟩) 1 cap) 1 (ruleIP fwd src bits)) (h1 : 0 ≤ bits) (h2 : bits ≤ 32) :
    DecC w w0.heap.size 0 (.pointer (some ⟨w0.heap.size + 1 + 1, 0, none⟩)) 1 (fun _ => ip && inPfx src x bits) (fun _ => false) (fun _ => fwd) := by
  have hc : CellsAt w g 0 (ruleIP fwd src bits) := fun i v hv => by
    have := ho.cells (g := g) rfl i v hv
    have hadd : (⟨g, 0, none⟩ : Addr).add i = ⟨g, i, none⟩ := by unfold Addr.add; split <;> simp_all
    rw [hadd] at this
    rw [Nat.zero_add]; exact this
  refine decC_some (rb := g) (by omega) (by omega) h.f0 ⟨fun i hi => ?_, fun i hi => ?_⟩ (fun i hi w1 hx => ?_)
  · obtain rfl : i = 0 := by omega
    simpa using hc 1 _ rfl
  · obtain rfl : i = 0 := by omega
    simpa using hc 17 _ rfl
  · obtain rfl : i = 0 := by omega
    have := matches_ip g 0 (w0.heap.size + 1 + 1) fwd ip src bits x w1 h1 h2 (hc.ext hx) (h.pk.ext hx)
    simpa using this
end Go.Proofs.Qxb6609285aDoor
