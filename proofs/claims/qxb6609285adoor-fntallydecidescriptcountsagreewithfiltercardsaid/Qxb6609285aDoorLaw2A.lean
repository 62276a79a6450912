import Derived.Test.Qxb6609285aDoorWalkL
namespace Go.Proofs.Qxb6609285aDoor
open Go.RowKit Go.Proofs
set_option linter.unusedVariables false
set_option linter.unusedSimpArgs false

theorem nat_same (b v m : Nat) : ((b ^^^ v) &&& m = 0) ↔ (b &&& m = v &&& m) := by
  constructor
  · intro h
    apply Nat.eq_of_testBit_eq
    intro i
    have := congrArg (fun y => y.testBit i) h
    simp only [Nat.testBit_and, Nat.testBit_xor, Nat.zero_testBit] at this ⊢
    cases hb : b.testBit i <;> cases hv : v.testBit i <;> cases hm : m.testBit i <;> simp_all
  · intro h
    apply Nat.eq_of_testBit_eq
    intro i
    have := congrArg (fun y => y.testBit i) h
    simp only [Nat.testBit_and, Nat.testBit_xor, Nat.zero_testBit] at this ⊢
    cases hb : b.testBit i <;> cases hv : v.testBit i <;> cases hm : m.testBit i <;> simp_all

/-- A byte. -/
def Byte (x : Int) : Prop := 0 ≤ x ∧ x < 256

/-- The two verdicts are one. -/
theorem verdict_eq (b v m : Int) (g : Bool) (hb : Byte b) (hv : Byte v) (hm : Byte m) : genM b m v g = ((bits BinOp.and IntKind.u8 (bits BinOp.xor IntKind.u8 b v) m == 0) != g) := by
  obtain ⟨b, rfl⟩ := Int.eq_ofNat_of_zero_le hb.1
  obtain ⟨v, rfl⟩ := Int.eq_ofNat_of_zero_le hv.1
  obtain ⟨m, rfl⟩ := Int.eq_ofNat_of_zero_le hm.1
  have h1 := hb.2
  have h2 := hv.2
  have h3 := hm.2
  have hx : b ^^^ v < 256 := Nat.xor_lt_two_pow (n := 8) (by omega) (by omega)
  unfold genM
  congr 1
  rw [u8_xor_nat b v (by omega) (by omega), u8_and_nat _ m hx (by omega), u8_and_nat b m (by omega) (by omega), u8_and_nat v m (by omega) (by omega)]
  rw [Bool.eq_iff_iff, beq_iff_eq, beq_iff_eq, Int.natCast_inj, ← nat_same]
  omega

theorem byteAt_byte {fl : Nat} {F : Nat → Int} (hF : ∀ i, Byte (F i)) (o : Nat) : Byte (byteAt fl F o) := by
  unfold byteAt
  split
  · exact hF o
  · exact ⟨by decide, by decide⟩

/-- How many rules a packet of direction d meets. -/
def met (rd d c : Nat) : Nat := if d = rd ∧ rd < 2 then c else 0

/-- The built filter decides by the chain model's verdicts. -/
theorem decC_built {w w1 : World} {rd c d pb : Nat} {fw G mr : Nat → Bool} {O : Nat → Nat} {M V F : Nat → Int} {a0 : Option Addr} {b0 o0 fl k0 : Nat} (hd : d < 2) (hc : c ≤ 12) (hO : ∀ i, O i < 65536) (hfl : fl ≤ 1048576)
    (hF : ∀ i, Byte (F i)) (hM : ∀ i, Byte (M i)) (hV : ∀ i, Byte (V i))
    (hB : Built w w1 rd c fw G mr O M V) (s0 : Slc w1 a0 b0 o0 fl (fun i => .int .u8 (F i))) (hp : CellsAt w1 pb 0 (pktF a0 fl k0)) :
    DecC w1 w.heap.size d (.pointer (some ⟨pb, 0, none⟩)) (met rd d c) (alone fl F O M V G) mr fw := by
  rcases hB with ⟨hrd, sa, cap, mb, vb, hf⟩ | ⟨hrd, hx, f0, f1⟩
  · by_cases e : d = rd
    · subst e
      have em : met d d c = c := by simp [met, hrd]
      rw [em]
      by_cases c0 : c = 0
      · subst c0; exact decC_nil hd hf.f
      · rcases hf.own.2 with ⟨_, h0⟩ | ⟨g, cp, cur, hv, hbg, hg, _⟩
        · exact absurd h0 c0
        · injection hv with v1 v2 v3
          subst v1
          have hcell : ∀ i, i < c → CellsAt w1 g (i * 18) (ruleG d (fw i) (O i) (mb i) (vb i) (G i) (mr i)) := fun i hi j u hu => by
            have h1 := rulesL_get d mb vb fw G mr O c i j u hi hu
            have h2 := hf.own.cells (g := g) rfl _ _ h1
            have hadd : (⟨g, 0, none⟩ : Addr).add (i * 18 + j) = ⟨g, i * 18 + j, none⟩ := by unfold Addr.add; split <;> simp_all
            rw [hadd] at h2
            exact h2
          refine decC_some (rb := g) hd hc hf.f ⟨fun i hi => hcell i hi 1 _ rfl, fun i hi => hcell i hi 17 _ rfl⟩ (fun i hi w2 hx2 => ?_)
          have hm := matchesG g (i * 18) d pb (fw i) (G i) (mr i) (O i) (mb i) (vb i) (M i) (V i) a0 b0 o0 fl k0 F w2 (hO i) hfl ((hcell i hi).ext hx2)
            (hx2.cell (by rw [cell_of_row w1 (mb i) 0 _ _ _ (hf.hmk i hi)]; rfl)) (hx2.cell (by rw [cell_of_row w1 (vb i) 0 _ _ _ (hf.hvl i hi)]; rfl)) (s0.ext hx2) (hp.ext hx2)
          rw [verdict_eq _ _ _ _ (byteAt_byte hF _) (hV i) (hM i)] at hm
          exact hm
    · have em : met rd d c = 0 := by simp [met, e]
      rw [em]
      have hg := hf.g
      rw [show 1 - rd = d by omega] at hg
      exact decC_nil hd hg
  · have em : met rd d c = 0 := by unfold met; rw [if_neg (by omega)]
    rw [em]
    rcases (show d = 0 ∨ d = 1 by omega) with rfl | rfl
    · exact decC_nil hd f0
    · exact decC_nil hd f1

/-- The model, whatever the directions. -/
theorem model_any (rd d n fl l1 l2 l3 l4 l5 l6 k0 k1 k2 k3 k4 k5 k6 : Nat) (a0 a1 a2 a3 a4 a5 a6 : Option Addr) (b0 b1 b2 b3 b4 b5 b6 o0 o1 o2 o3 o4 o5 o6 : Nat) (F M V : Nat → Int) (O : Nat → Nat) (fw G mr : Nat → Bool) (w : World)
    (hO : ∀ i, O i < 65536) (hfl : fl ≤ 1048576)
    (s0 : Slc w a0 b0 o0 fl (fun i => .int .u8 (F i))) (s1 : Slc w a1 b1 o1 l1 (fun i => .int .u16 (O i))) (s2 : Slc w a2 b2 o2 l2 (fun i => .int .u8 (M i))) (s3 : Slc w a3 b3 o3 l3 (fun i => .int .u8 (V i)))
    (s4 : Slc w a4 b4 o4 l4 (fun i => .bool (fw i))) (s5 : Slc w a5 b5 o5 l5 (fun i => .bool (G i))) (s6 : Slc w a6 b6 o6 l6 (fun i => .bool (mr i)))
    (h1 : n ≤ l1) (h2 : n ≤ l2) (h3 : n ≤ l3) (h4 : n ≤ l4) (h5 : n ≤ l5) (h6 : n ≤ l6) :
    Calls Tryd.prog 9 #[.int .u8 rd, .int .u8 d, .slice a0 fl k0, .slice a1 l1 k1, .slice a2 l2 k2, .slice a3 l3 k3, .slice a4 l4 k4, .slice a5 l5 k5, .slice a6 l6 k6, .int .i64 n] w fun e w' =>
      ∃ b r, e = .returned (.tuple #[.bool b, .int .i64 (r : Nat)]) ∧ IsDec (met rd d (min n 12)) (alone fl F O M V G) mr fw b r ∧ Ext w w' := by
  by_cases hz : d ≠ rd ∨ 1 < rd ∨ n = 0
  · refine (model_zero rd d n fl l1 l2 l3 l4 l5 l6 k0 k1 k2 k3 k4 k5 k6 a0 a1 a2 a3 a4 a5 a6 w hz).mono ?_
    rintro e w' ⟨rfl, rfl⟩
    have em : met rd d (min n 12) = 0 := by
      unfold met
      split
      · rename_i h; omega
      · rfl
    rw [em]
    exact ⟨true, 0, rfl, .inr ⟨fun i hi => absurd hi (by omega), rfl, rfl⟩, Ext.refl _⟩
  · obtain rfl : d = rd := by omega
    have em : met d d (min n 12) = min n 12 := by unfold met; rw [if_pos ⟨rfl, by omega⟩]
    rw [em]
    by_cases hn : n ≤ 12
    · rw [show min n 12 = n by omega]
      exact model_small d n fl l1 l2 l3 l4 l5 l6 k0 k1 k2 k3 k4 k5 k6 a0 a1 a2 a3 a4 a5 a6 b0 b1 b2 b3 b4 b5 b6 o0 o1 o2 o3 o4 o5 o6 F M V O fw G mr w (by omega) (by omega) hn hO hfl s0 s1 s2 s3 s4 s5 s6 h1 h2 h3 h4 h5 h6
    · rw [show min n 12 = 12 by omega]
      exact model_big d n fl l1 l2 l3 l4 l5 l6 k0 k1 k2 k3 k4 k5 k6 a0 a1 a2 a3 a4 a5 a6 b0 b1 b2 b3 b4 b5 b6 o0 o1 o2 o3 o4 o5 o6 F M V O fw G mr w (by omega) (by omega) (by omega) hO hfl s0 s1 s2 s3 s4 s5 s6 h1 h2 h3 h4 h5 h6

theorem Built.xExt {w w' : World} {rd c : Nat} {fw G mr : Nat → Bool} {O : Nat → Nat} {M V : Nat → Int} (h : Built w w' rd c fw G mr O M V) : Ext w w' := by
  rcases h with ⟨_, _, _, _, _, h⟩ | ⟨_, h, _⟩
  · exact h.xExt
  · exact h
theorem Built.ext {w w' w'' : World} {rd c : Nat} {fw G mr : Nat → Bool} {O : Nat → Nat} {M V : Nat → Int} (h : Built w w' rd c fw G mr O M V) (k : Ext w' w'') : Built w w'' rd c fw G mr O M V := by
  rcases h with ⟨hr, sa, cap, mb, vb, h⟩ | ⟨hr, h, f0, f1⟩
  · exact .inl ⟨hr, sa, cap, mb, vb, h.ext k⟩
  · exact .inr ⟨hr, h.trans k, k.cell f0, k.cell f1⟩
theorem met_le (rd d c : Nat) : met rd d c ≤ c := by unfold met; split <;> omega
end Go.Proofs.Qxb6609285aDoor
