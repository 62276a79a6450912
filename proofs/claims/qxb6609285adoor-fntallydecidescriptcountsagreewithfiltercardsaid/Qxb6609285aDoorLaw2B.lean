import Derived.Test.Qxb6609285aDoorLaw2A
namespace Go.Proofs.Qxb6609285aDoor
open Go.RowKit Go.Proofs
set_option linter.unusedVariables false
set_option linter.unusedSimpArgs false

theorem zero_lo (i : Nat) : (0 : Int) ≤ (fun _ : Nat => (0 : Int)) i := by show (0 : Int) ≤ 0; decide
theorem zero_hi (i : Nat) : (fun _ : Nat => (0 : Int)) i < 18446744073709551615 := by show (0 : Int) < 18446744073709551615; decide
theorem tally_new (w : World) (fb : Nat) : TallyAt (w.alloc (.cells (#[.pointer (some ⟨fb, 0, none⟩)] ++ Array.replicate 26 (.int .u64 0)) 76)) w.heap.size fb (fun _ => 0) := by
  refine ⟨?_, ?_, ?_⟩
  · simp [go_sem]
  · intro i hi
    simp [go_sem]
    rw [Array.getElem?_append_right (by simp)]
    simp [Array.getElem?_replicate, hi]
  · intro i hi
    simp [go_sem]

set_option maxRecDepth 100000 in
set_option maxHeartbeats 2000000 in
theorem law2_any (rd d fl l1 l2 l3 l4 l5 l6 k0 k1 k2 k3 k4 k5 k6 : Nat) (a0 a1 a2 a3 a4 a5 a6 : Option Addr) (b0 b1 b2 b3 b4 b5 b6 o0 o1 o2 o3 o4 o5 o6 : Nat) (F M V : Nat → Int) (O : Nat → Nat) (fw G mr : Nat → Bool) (w : World)
    (hO : ∀ i, O i < 65536) (hF : ∀ i, Byte (F i)) (hM : ∀ i, Byte (M i)) (hV : ∀ i, Byte (V i))
    (s0 : Slc w a0 b0 o0 fl (fun i => .int .u8 (F i))) (s1 : Slc w a1 b1 o1 l1 (fun i => .int .u16 (O i))) (s2 : Slc w a2 b2 o2 l2 (fun i => .int .u8 (M i))) (s3 : Slc w a3 b3 o3 l3 (fun i => .int .u8 (V i)))
    (s4 : Slc w a4 b4 o4 l4 (fun i => .bool (fw i))) (s5 : Slc w a5 b5 o5 l5 (fun i => .bool (G i))) (s6 : Slc w a6 b6 o6 l6 (fun i => .bool (mr i))) :
    Calls Tryd.prog 3 #[.int .u8 rd, .int .u8 d, .slice a0 fl k0, .slice a1 l1 k1, .slice a2 l2 k2, .slice a3 l3 k3, .slice a4 l4 k4, .slice a5 l5 k5, .slice a6 l6 k6] w fun e w' =>
      e = .returned (.bool true) ∧ Ext w w' := by
  have S0 := hide s0
  have S1 := hide s1
  have S2 := hide s2
  have S3 := hide s3
  have S4 := hide s4
  have S5 := hide s5
  have S6 := hide s6
  have HO := hide hO
  have HF := hide hF
  have HM := hide hM
  have HV := hide hV
  clear s0 s1 s2 s3 s4 s5 s6 hO hF hM hV
  go_enter Tryd.func3, Tryd.ntmps3
  go_wp2_with fail
  refine (bytes2_any rd d a0 a1 a2 a3 a4 a5 a6 fl l1 l2 l3 l4 l5 l6 k0 k1 k2 k3 k4 k5 k6 w).mono ?_
  rintro e w' ⟨bb, rfl, rfl, hbb⟩
  cases bb
  · go_wp2_with fail
    go_ret
    exact ⟨rfl, Ext.refl _⟩
  replace hbb := hbb rfl
  by_cases hd : 1 < d
  · have hdi : (1 : Int) < d := by omega
    go_wp2_with fail
    all_goals
      go_ret
      exact ⟨rfl, Ext.refl _⟩
  have hdi : ¬ (1 : Int) < d := by omega
  by_cases htot : 1048576 < fl + 2 * l1 + l2 + l3 + l4 + l5 + l6
  · have hti : (1048576 : Int) < (fl : Int) + 2 * l1 + l2 + l3 + l4 + l5 + l6 := by omega
    go_wp2_with fail
    go_ret
    exact ⟨rfl, Ext.refl _⟩
  have hti : ¬ (1048576 : Int) < (fl : Int) + 2 * l1 + l2 + l3 + l4 + l5 + l6 := by omega
  go_wp2_with fail
  refine (ruleCount_any a1 a2 a3 a4 a5 a6 l1 l2 l3 l4 l5 l6 k1 k2 k3 k4 k5 k6 _).mono ?_
  rintro e w0 ⟨n, rfl, rfl, h1, h2, h3, h4, h5, h6⟩
  go_wp2_with fail
  refine (build_any rd n l1 l2 l3 l4 l5 l6 k1 k2 k3 k4 k5 k6 a1 a2 a3 a4 a5 a6 b1 b2 b3 b4 b5 b6 o1 o2 o3 o4 o5 o6 M V O fw G mr _ (by omega) S1.out S2.out S3.out S4.out S5.out S6.out h1 h2 h3 h4 h5 h6).mono ?_
  rintro e w1 ⟨rfl, hB⟩
  have HB := hide hB
  clear hB
  go_wp2_with fail
  have HX1 := hide HB.out.xExt
  refine (model_any rd d n fl l1 l2 l3 l4 l5 l6 k0 k1 k2 k3 k4 k5 k6 a0 a1 a2 a3 a4 a5 a6 b0 b1 b2 b3 b4 b5 b6 o0 o1 o2 o3 o4 o5 o6 F M V O fw G mr _ HO.out (by omega) (S0.out.ext HX1.out) (S1.out.ext HX1.out) (S2.out.ext HX1.out) (S3.out.ext HX1.out) (S4.out.ext HX1.out) (S5.out.ext HX1.out) (S6.out.ext HX1.out) h1 h2 h3 h4 h5 h6).mono ?_
  rintro e w2 ⟨b, r, rfl, hI, hx2⟩
  have HI := hide hI
  have HB2 := hide (HB.out.ext hx2)
  have hr12 : r ≤ 12 := by have := hI.le; have := met_le rd d (min n 12); omega
  clear hI hx2 HB HX1
  go_wp2_with fail
  refine (newTally_any _ _).mono ?_
  rintro e w3 ⟨rfl, rfl⟩
  go_wp2_with fail
  obtain ⟨W4, hW4⟩ : ∃ W, W = ((w2.alloc (.cells (#[.pointer (some ⟨w0.heap.size, 0, none⟩)] ++ Array.replicate 26 (.int .u64 0)) 76)).alloc (.cells #[.slice a0 fl k0, .bool false, .int .u32 0, .int .u32 0, .int .u8 0, .bool false, .int .u16 0, .int .u16 0, .bool false, .int .u8 0] 42)) := ⟨_, rfl⟩
  have HT : Hid (TallyAt W4 w2.heap.size w0.heap.size (fun _ => 0)) := by rw [hW4]; exact (tally_new w2 w0.heap.size).ext ((Ext.refl _).alloc _)
  have HX4 : Hid (Ext w2 W4) := by rw [hW4]; exact ((Ext.refl w2).alloc _).alloc _
  have HP : Hid (CellsAt W4 (w2.heap.size + 1) 0 (pktF a0 fl k0)) := by
    have := cells_new (w2.alloc (.cells (#[.pointer (some ⟨w0.heap.size, 0, none⟩)] ++ Array.replicate 26 (.int .u64 0)) 76)) _ (pktF a0 fl k0) 42 (Ext.refl _)
    rw [show (w2.alloc (.cells (#[.pointer (some ⟨w0.heap.size, 0, none⟩)] ++ Array.replicate 26 (.int .u64 0)) 76)).heap.size = w2.heap.size + 1 by simp] at this
    rw [hW4]; exact this
  rw [← hW4]
  clear hW4
  have HB4 := hide (HB2.out.ext HX4.out)
  have HD := hide (decC_built (d := d) (b0 := b0) (o0 := o0) (by omega) (by omega) HO.out (by omega) HF.out HM.out HV.out HB4.out (S0.out.ext (HB4.out.xExt)) HP.out)
  refine (tdecide_any w2.heap.size w0.heap.size d _ _ _ _ _ (fun _ => 0) W4 (by omega) (by have := met_le rd d (min n 12); omega) HT.out zero_lo zero_hi HD).mono ?_
  rintro e w5 ⟨b', r', rfl, hI', hx5⟩
  obtain ⟨rfl, rfl⟩ := HI.out.unique hI'
  have HT5 := hide ((HT.out.bump (d * 13 + r) (by omega)).ext hx5)
  have HX5 := hide ((HB4.out.xExt.setCell (p := ⟨w2.heap.size, 1 + (d * 13 + r), none⟩) (show w0.heap.size ≤ w2.heap.size from HB2.out.xExt.size) _).trans hx5)
  clear hI' hx5 HD HB4 HP HX4 HT HB2 HI
  go_wp2_with fail
  have HT7 := hide (HT5.out.ext ((Ext.refl w5).alloc (.cells #[.bool b, .int .i64 r] 35)))
  have HX7 := hide (HX5.out.alloc (.cells #[.bool b, .int .i64 r] 35))
  clear HT5 HX5
  generalize hw7 : (w5.alloc (.cells #[.bool b, .int .i64 r] 35)) = w7 at *
  clear hw7
  go_loopw [26] (fun x wr => ∃ q : Nat, q ≤ 2 ∧ x = .int .i64 q ∧ wr = w7) (fun x _ => 2 - (intOf x).toNat)
  case atStart => exact ⟨0, by omega, rfl, rfl⟩
  case round =>
    obtain ⟨q, hq, rfl, hwr⟩ := hrel
    obtain rfl : w7 = wr := hwr.symm
    clear hwr
    by_cases hlt : q < 2
    · have hqd : decide ((q : Int) < 2) = true := by simp; omega
      go_wp2_with fail
      go_loopw [27] (fun x wr => ∃ p : Nat, p ≤ 13 ∧ x = .int .i64 p ∧ wr = w7) (fun x _ => 13 - (intOf x).toNat)
      case atStart => exact ⟨0, by omega, rfl, rfl⟩
      case round =>
        obtain ⟨p, hp, rfl, hwr⟩ := hrel
        obtain rfl : w7 = wr := hwr.symm
        clear hwr
        by_cases hp12 : p ≤ 12
        · have HC : ∀ v, bump (fun _ => 0) (d * 13 + r) (q * 13 + p) = v → Hid (Calls Tryd.prog 12 #[.pointer (some ⟨w2.heap.size, 0, none⟩), .int .u8 q, .int .i64 p] w7 fun e w' => e = .returned (.int .u64 v) ∧ w' = w7) :=
            fun v hv => count_any w2.heap.size q p v w7 hlt hp12 (by rw [Nat.add_assoc, HT7.out.cnt (q * 13 + p) (by omega), hv])
          by_cases eq : q = d
          · by_cases ep : p = r
            · have hc := HC 1 (by simp [bump, eq, ep])
              clear HC
              have e1 : ((q : Int) == (d : Int)) = true := by rw [beq_iff_eq]; omega
              have e2 : ((p : Int) == (r : Int)) = true := by rw [beq_iff_eq]; omega
              clear eq ep
              go_wp2_with (go_at_call 12; refine hc.out.mono ?_; rintro e w' ⟨rfl, hw'⟩; rw [hw']; clear hw')
              go_roundw
              case rel => first | exact ⟨p + 1, by omega, by go_num, by trivial⟩ | ((repeat apply Exists.intro); exact ⟨⟨p + 1, by omega, by go_num, by trivial⟩, rfl⟩)
              case measure => (simp [intOf] <;> omega)
            · have hc := HC 0 (by simp only [bump]; rw [if_neg (by omega)])
              clear HC
              have e1 : ((q : Int) == (d : Int)) = true := by rw [beq_iff_eq]; omega
              have e2 : ((p : Int) == (r : Int)) = false := by rw [beq_eq_false_iff_ne]; omega
              clear eq ep
              go_wp2_with (go_at_call 12; refine hc.out.mono ?_; rintro e w' ⟨rfl, hw'⟩; rw [hw']; clear hw')
              go_roundw
              case rel => first | exact ⟨p + 1, by omega, by go_num, by trivial⟩ | ((repeat apply Exists.intro); exact ⟨⟨p + 1, by omega, by go_num, by trivial⟩, rfl⟩)
              case measure => (simp [intOf] <;> omega)
          · have hc := HC 0 (by simp only [bump]; rw [if_neg (by omega)])
            clear HC
            have e1 : ((q : Int) == (d : Int)) = false := by rw [beq_eq_false_iff_ne]; omega
            clear eq
            go_wp2_with (go_at_call 12; refine hc.out.mono ?_; rintro e w' ⟨rfl, hw'⟩; rw [hw']; clear hw')
            go_roundw
            case rel => first | exact ⟨p + 1, by omega, by go_num, by trivial⟩ | ((repeat apply Exists.intro); exact ⟨⟨p + 1, by omega, by go_num, by trivial⟩, rfl⟩)
            case measure => (simp [intOf] <;> omega)
        · go_wp2_with fail
          go_roundw
          case rel => first | exact ⟨q + 1, by omega, by go_num, by trivial⟩ | ((repeat apply Exists.intro); exact ⟨⟨q + 1, by omega, by go_num, by trivial⟩, rfl⟩)
          case measure => (simp [intOf] <;> omega)
    · go_wp2_with fail
      go_ret
      exact ⟨rfl, HX7.out⟩
end Go.Proofs.Qxb6609285aDoor
