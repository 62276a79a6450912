import Derived.Test.Qxb6609285aDoorLawA
namespace Go.Proofs.Qxb6609285aDoor
open Go.RowKit Go.Proofs
set_option linter.unusedVariables false
set_option linter.unusedSimpArgs false


set_option maxRecDepth 100000 in
set_option maxHeartbeats 4000000 in
theorem law1_hit (src bits : Int) (fwd : Bool) (x : Int) (w : World) (hs0 : 0 ≤ src) (hs1 : src < 4294967296) (hx0 : 0 ≤ x) (hx1 : x < 4294967296) (hb1 : 0 < bits) (hb2 : bits ≤ 32) (h0 : (bits == 0) = false) (hin : inPfx src x bits = true) (hmt : (Go.bits BinOp.and IntKind.u32 x (4294967295 * 2 ^ (32 - bits).toNat % 4294967296) == Go.bits BinOp.and IntKind.u32 src (4294967295 * 2 ^ (32 - bits).toNat % 4294967296)) = true) :
    Calls Tryd.prog 5 #[.int .u32 src, .int .u8 bits, .bool fwd, .bool true, .int .u32 x] w fun e w' => e = .returned (.bool true) ∧ Below w.heap.size w w' := by
  have hneq := neq_self
  go_enter Tryd.func5, Tryd.ntmps5
  go_wp2_with fail
  refine (newTally_any _ _).mono ?_; rintro e w' ⟨rfl, rfl⟩
  go_wp2_with fail
  refine (filter_any _ (.pointer (some ⟨w.heap.size, 0, none⟩)) _ (by simp [go_sem])).mono ?_; rintro e w' ⟨rfl, rfl⟩
  go_wp2_with fail
  have H0 := hide (St.start w true x)
  refine (tdecide_any (w.heap.size + 1) w.heap.size 0 _ 0 (fun _ => true) (fun _ => true) (fun _ => true) (fun _ => 0) _ (by omega) (by omega) H0.out.tal (by intro i; decide) (by intro i; decide) (decC_nil (by omega) H0.out.f0)).mono ?_
  rintro e w1 ⟨b, r, rfl, hb, hx⟩
  obtain ⟨rfl, rfl⟩ := dec_nil hb
  have H1 := hide (H0.out.bump 0 (by omega) hx)
  clear hx hb H0
  go_wp2_with fail
  have H2 := hide (H1.out.ext ((Ext.refl w1).alloc (.cells #[.bool true, .int .i64 0] 35)))
  clear H1
  generalize hw2 : (w1.alloc (.cells #[.bool true, .int .i64 0] 35)) = w2 at *
  clear hw2
  have hs2 := H2.out.lt
  refine (add_ok w.heap.size 0 0 0 (w.heap.size + 1) none [] _ _ _ _ _ _ _ _ _ _ _ _ _ _ _ _ _ w2 (by omega) (by omega) (one_ip fwd src bits) H2.out.f0 H2.out.z0 (by omega) (by omega) (World.ownsRow_nil _ _ _ _) (fun rb w1 hc => check_good rb 0 fwd src bits w1 hb2 hc)).mono ?_
  rintro e w3 ⟨rfl, g, cap, hown, hgr, hlt⟩
  have H3 := hide (H2.out.add hgr)
  have HD := hide (decC_one (fwd := fwd) (src := src) (bits := bits) H3.out hown (by omega) hb2)
  clear hown hgr H2
  go_wp2_with fail
  refine (filter_any _ (.pointer (some ⟨w.heap.size, 0, none⟩)) _ H3.out.tal.f).mono ?_; rintro e w' ⟨rfl, rfl⟩
  go_wp2_with fail
  refine (tdecide_any (w.heap.size + 1) w.heap.size 0 _ 1 _ _ _ (bump (fun _ => 0) 0) _ (by omega) (by omega) H3.out.tal (bump_lo 0) (bump_hi 0) HD).mono ?_
  rintro e w4 ⟨b, r, rfl, hb, hx⟩
  obtain ⟨e1, rfl⟩ := dec_one_hit hb (by simpa using hin)
  obtain rfl : fwd = b := e1.symm
  have H4 := hide (H3.out.bump 1 (by omega) hx)
  clear hx hb H3 hneq
  go_wp2_with fail
  have H5 := hide (H4.out.ext ((Ext.refl w4).alloc (.cells #[.bool fwd, .int .i64 1] 35)))
  clear H4
  generalize hw5 : (w4.alloc (.cells #[.bool fwd, .int .i64 1] 35)) = w5 at *
  clear hw5
  refine (tdecide_any (w.heap.size + 1) w.heap.size 1 _ 0 (fun _ => true) (fun _ => true) (fun _ => true) (bump (bump (fun _ => 0) 0) 1) _ (by omega) (by omega) H5.out.tal (bump2_lo 0 1) (bump2_hi 0 1) (decC_nil (by omega) H5.out.f1)).mono ?_
  rintro e w6 ⟨b, r, rfl, hb, hx⟩
  obtain ⟨rfl, rfl⟩ := dec_nil hb
  have H6 := hide (H5.out.bump 13 (by omega) hx)
  clear hx hb H5
  go_wp2_with fail
  have H7 := hide (H6.out.ext ((Ext.refl w6).alloc (.cells #[.bool true, .int .i64 0] 35)))
  clear H6
  generalize hw7 : (w6.alloc (.cells #[.bool true, .int .i64 0] 35)) = w7 at *
  clear hw7
  go_loopw [23] (fun d wr => ∃ q : Nat, q ≤ 2 ∧ d = .int .i64 q ∧ wr = w7) (fun d _ => 2 - (intOf d).toNat)
  case atStart => exact ⟨0, by omega, rfl, rfl⟩
  case round =>
    obtain ⟨q, hq, rfl, hwr⟩ := hrel
    obtain rfl : w7 = wr := hwr.symm
    by_cases hlt : q < 2
    · go_wp2_with fail
      go_loopw [24] (fun k wr => ∃ p : Nat, p ≤ 13 ∧ k = .int .i64 p ∧ wr = w7) (fun k _ => 13 - (intOf k).toNat)
      case atStart => exact ⟨0, by omega, rfl, rfl⟩
      case round =>
        obtain ⟨p, hp, rfl, hwr⟩ := hrel
        obtain rfl : w7 = wr := hwr.symm
        by_cases hp12 : p ≤ 12
        · have HC : ∀ v, bump (bump (bump (fun _ => 0) 0) 1) 13 (q * 13 + p) = v → Hid (Calls Tryd.prog 12 #[.pointer (some ⟨w.heap.size + 1, 0, none⟩), .int .u8 q, .int .i64 p] w7 fun e w' => e = .returned (.int .u64 v) ∧ w' = w7) :=
            fun v hv => count_any (w.heap.size + 1) q p v w7 hlt hp12 (by rw [Nat.add_assoc, H7.out.tal.cnt (q * 13 + p) (by omega), hv])
          rcases (show q = 0 ∨ q = 1 by omega) with rfl | rfl
          · rcases (show p = 0 ∨ p = 1 ∨ 2 ≤ p by omega) with rfl | rfl | hp2
            · have hc := HC 1 (by decide)
              clear HC
              go_wp2_with (go_at_call 12; refine hc.out.mono ?_; rintro e w' ⟨rfl, hw'⟩; rw [hw']; clear hw')
              go_roundw
              case rel => first | exact ⟨1, by omega, by go_num, by trivial⟩ | ((repeat apply Exists.intro); exact ⟨⟨1, by omega, by go_num, by trivial⟩, rfl⟩)
              case measure => simp [intOf]
            · have hc := HC 1 (by decide)
              clear HC
              go_wp2_with (go_at_call 12; refine hc.out.mono ?_; rintro e w' ⟨rfl, hw'⟩; rw [hw']; clear hw')
              go_roundw
              case rel => first | exact ⟨2, by omega, by go_num, by trivial⟩ | ((repeat apply Exists.intro); exact ⟨⟨2, by omega, by go_num, by trivial⟩, rfl⟩)
              case measure => simp [intOf]
            · have hc := HC 0 (by simp only [bump]; rw [if_neg (by omega), if_neg (by omega), if_neg (by omega)])
              clear HC
              have e0 : ((p : Int) == 0) = false := by rw [beq_eq_false_iff_ne]; omega
              have e1 : ((p : Int) == 1) = false := by rw [beq_eq_false_iff_ne]; omega
              go_wp2_with (go_at_call 12; refine hc.out.mono ?_; rintro e w' ⟨rfl, hw'⟩; rw [hw']; clear hw')
              go_roundw
              case rel => first | exact ⟨p + 1, by omega, by go_num, by trivial⟩ | ((repeat apply Exists.intro); exact ⟨⟨p + 1, by omega, by go_num, by trivial⟩, rfl⟩)
              case measure => simp [intOf]; omega
          · rcases (show p = 0 ∨ 1 ≤ p by omega) with rfl | hp2
            · have hc := HC 1 (by decide)
              clear HC
              go_wp2_with (go_at_call 12; refine hc.out.mono ?_; rintro e w' ⟨rfl, hw'⟩; rw [hw']; clear hw')
              go_roundw
              case rel => first | exact ⟨1, by omega, by go_num, by trivial⟩ | ((repeat apply Exists.intro); exact ⟨⟨1, by omega, by go_num, by trivial⟩, rfl⟩)
              case measure => simp [intOf]
            · have hc := HC 0 (by simp only [bump]; rw [if_neg (by omega), if_neg (by omega), if_neg (by omega)])
              clear HC
              have e0 : ((p : Int) == 0) = false := by rw [beq_eq_false_iff_ne]; omega
              go_wp2_with (go_at_call 12; refine hc.out.mono ?_; rintro e w' ⟨rfl, hw'⟩; rw [hw']; clear hw')
              go_roundw
              case rel => first | exact ⟨p + 1, by omega, by go_num, by trivial⟩ | ((repeat apply Exists.intro); exact ⟨⟨p + 1, by omega, by go_num, by trivial⟩, rfl⟩)
              case measure => simp [intOf]; omega
        · go_wp2_with fail
          go_roundw
          case rel => first | exact ⟨q + 1, by omega, by go_num, by trivial⟩ | ((repeat apply Exists.intro); exact ⟨⟨q + 1, by omega, by go_num, by trivial⟩, rfl⟩)
          case measure => simp [intOf]; omega
    · go_wp2_with fail
      go_ret
      exact ⟨rfl, H7.out.bel⟩

set_option maxRecDepth 100000 in
set_option maxHeartbeats 4000000 in
theorem law1_out (src bits : Int) (fwd : Bool) (x : Int) (w : World) (hs0 : 0 ≤ src) (hs1 : src < 4294967296) (hx0 : 0 ≤ x) (hx1 : x < 4294967296) (hb1 : 0 < bits) (hb2 : bits ≤ 32) (h0 : (bits == 0) = false) (hin : inPfx src x bits = false) (hmt : (Go.bits BinOp.and IntKind.u32 x (4294967295 * 2 ^ (32 - bits).toNat % 4294967296) == Go.bits BinOp.and IntKind.u32 src (4294967295 * 2 ^ (32 - bits).toNat % 4294967296)) = false) :
    Calls Tryd.prog 5 #[.int .u32 src, .int .u8 bits, .bool fwd, .bool true, .int .u32 x] w fun e w' => e = .returned (.bool true) ∧ Below w.heap.size w w' := by
  have hneq := neq_self
  go_enter Tryd.func5, Tryd.ntmps5
  go_wp2_with fail
  refine (newTally_any _ _).mono ?_; rintro e w' ⟨rfl, rfl⟩
  go_wp2_with fail
  refine (filter_any _ (.pointer (some ⟨w.heap.size, 0, none⟩)) _ (by simp [go_sem])).mono ?_; rintro e w' ⟨rfl, rfl⟩
  go_wp2_with fail
  have H0 := hide (St.start w true x)
  refine (tdecide_any (w.heap.size + 1) w.heap.size 0 _ 0 (fun _ => true) (fun _ => true) (fun _ => true) (fun _ => 0) _ (by omega) (by omega) H0.out.tal (by intro i; decide) (by intro i; decide) (decC_nil (by omega) H0.out.f0)).mono ?_
  rintro e w1 ⟨b, r, rfl, hb, hx⟩
  obtain ⟨rfl, rfl⟩ := dec_nil hb
  have H1 := hide (H0.out.bump 0 (by omega) hx)
  clear hx hb H0
  go_wp2_with fail
  have H2 := hide (H1.out.ext ((Ext.refl w1).alloc (.cells #[.bool true, .int .i64 0] 35)))
  clear H1
  generalize hw2 : (w1.alloc (.cells #[.bool true, .int .i64 0] 35)) = w2 at *
  clear hw2
  have hs2 := H2.out.lt
  refine (add_ok w.heap.size 0 0 0 (w.heap.size + 1) none [] _ _ _ _ _ _ _ _ _ _ _ _ _ _ _ _ _ w2 (by omega) (by omega) (one_ip fwd src bits) H2.out.f0 H2.out.z0 (by omega) (by omega) (World.ownsRow_nil _ _ _ _) (fun rb w1 hc => check_good rb 0 fwd src bits w1 hb2 hc)).mono ?_
  rintro e w3 ⟨rfl, g, cap, hown, hgr, hlt⟩
  have H3 := hide (H2.out.add hgr)
  have HD := hide (decC_one (fwd := fwd) (src := src) (bits := bits) H3.out hown (by omega) hb2)
  clear hown hgr H2
  go_wp2_with fail
  refine (filter_any _ (.pointer (some ⟨w.heap.size, 0, none⟩)) _ H3.out.tal.f).mono ?_; rintro e w' ⟨rfl, rfl⟩
  go_wp2_with fail
  refine (tdecide_any (w.heap.size + 1) w.heap.size 0 _ 1 _ _ _ (bump (fun _ => 0) 0) _ (by omega) (by omega) H3.out.tal (bump_lo 0) (bump_hi 0) HD).mono ?_
  rintro e w4 ⟨b, r, rfl, hb, hx⟩
  obtain ⟨e1, rfl⟩ := dec_one_miss hb (by simpa using hin)
  obtain rfl : false = b := e1.symm
  have H4 := hide (H3.out.bump 0 (by omega) hx)
  clear hx hb H3 hneq
  go_wp2_with fail
  have H5 := hide (H4.out.ext ((Ext.refl w4).alloc (.cells #[.bool false, .int .i64 0] 35)))
  clear H4
  generalize hw5 : (w4.alloc (.cells #[.bool false, .int .i64 0] 35)) = w5 at *
  clear hw5
  refine (tdecide_any (w.heap.size + 1) w.heap.size 1 _ 0 (fun _ => true) (fun _ => true) (fun _ => true) (bump (bump (fun _ => 0) 0) 0) _ (by omega) (by omega) H5.out.tal (bump2_lo 0 0) (bump2_hi 0 0) (decC_nil (by omega) H5.out.f1)).mono ?_
  rintro e w6 ⟨b, r, rfl, hb, hx⟩
  obtain ⟨rfl, rfl⟩ := dec_nil hb
  have H6 := hide (H5.out.bump 13 (by omega) hx)
  clear hx hb H5
  go_wp2_with fail
  have H7 := hide (H6.out.ext ((Ext.refl w6).alloc (.cells #[.bool true, .int .i64 0] 35)))
  clear H6
  generalize hw7 : (w6.alloc (.cells #[.bool true, .int .i64 0] 35)) = w7 at *
  clear hw7
  go_loopw [23] (fun d wr => ∃ q : Nat, q ≤ 2 ∧ d = .int .i64 q ∧ wr = w7) (fun d _ => 2 - (intOf d).toNat)
  case atStart => exact ⟨0, by omega, rfl, rfl⟩
  case round =>
    obtain ⟨q, hq, rfl, hwr⟩ := hrel
    obtain rfl : w7 = wr := hwr.symm
    by_cases hlt : q < 2
    · go_wp2_with fail
      go_loopw [24] (fun k wr => ∃ p : Nat, p ≤ 13 ∧ k = .int .i64 p ∧ wr = w7) (fun k _ => 13 - (intOf k).toNat)
      case atStart => exact ⟨0, by omega, rfl, rfl⟩
      case round =>
        obtain ⟨p, hp, rfl, hwr⟩ := hrel
        obtain rfl : w7 = wr := hwr.symm
        by_cases hp12 : p ≤ 12
        · have HC : ∀ v, bump (bump (bump (fun _ => 0) 0) 0) 13 (q * 13 + p) = v → Hid (Calls Tryd.prog 12 #[.pointer (some ⟨w.heap.size + 1, 0, none⟩), .int .u8 q, .int .i64 p] w7 fun e w' => e = .returned (.int .u64 v) ∧ w' = w7) :=
            fun v hv => count_any (w.heap.size + 1) q p v w7 hlt hp12 (by rw [Nat.add_assoc, H7.out.tal.cnt (q * 13 + p) (by omega), hv])
          rcases (show q = 0 ∨ q = 1 by omega) with rfl | rfl
          · rcases (show p = 0 ∨ p = 1 ∨ 2 ≤ p by omega) with rfl | rfl | hp2
            · have hc := HC 2 (by decide)
              clear HC
              go_wp2_with (go_at_call 12; refine hc.out.mono ?_; rintro e w' ⟨rfl, hw'⟩; rw [hw']; clear hw')
              go_roundw
              case rel => first | exact ⟨1, by omega, by go_num, by trivial⟩ | ((repeat apply Exists.intro); exact ⟨⟨1, by omega, by go_num, by trivial⟩, rfl⟩)
              case measure => simp [intOf]
            · have hc := HC 0 (by decide)
              clear HC
              go_wp2_with (go_at_call 12; refine hc.out.mono ?_; rintro e w' ⟨rfl, hw'⟩; rw [hw']; clear hw')
              go_roundw
              case rel => first | exact ⟨2, by omega, by go_num, by trivial⟩ | ((repeat apply Exists.intro); exact ⟨⟨2, by omega, by go_num, by trivial⟩, rfl⟩)
              case measure => simp [intOf]
            · have hc := HC 0 (by simp only [bump]; rw [if_neg (by omega), if_neg (by omega), if_neg (by omega)])
              clear HC
              have e0 : ((p : Int) == 0) = false := by rw [beq_eq_false_iff_ne]; omega
              have e1 : ((p : Int) == 1) = false := by rw [beq_eq_false_iff_ne]; omega
              go_wp2_with (go_at_call 12; refine hc.out.mono ?_; rintro e w' ⟨rfl, hw'⟩; rw [hw']; clear hw')
              go_roundw
              case rel => first | exact ⟨p + 1, by omega, by go_num, by trivial⟩ | ((repeat apply Exists.intro); exact ⟨⟨p + 1, by omega, by go_num, by trivial⟩, rfl⟩)
              case measure => simp [intOf]; omega
          · rcases (show p = 0 ∨ 1 ≤ p by omega) with rfl | hp2
            · have hc := HC 1 (by decide)
              clear HC
              go_wp2_with (go_at_call 12; refine hc.out.mono ?_; rintro e w' ⟨rfl, hw'⟩; rw [hw']; clear hw')
              go_roundw
              case rel => first | exact ⟨1, by omega, by go_num, by trivial⟩ | ((repeat apply Exists.intro); exact ⟨⟨1, by omega, by go_num, by trivial⟩, rfl⟩)
              case measure => simp [intOf]
            · have hc := HC 0 (by simp only [bump]; rw [if_neg (by omega), if_neg (by omega), if_neg (by omega)])
              clear HC
              have e0 : ((p : Int) == 0) = false := by rw [beq_eq_false_iff_ne]; omega
              go_wp2_with (go_at_call 12; refine hc.out.mono ?_; rintro e w' ⟨rfl, hw'⟩; rw [hw']; clear hw')
              go_roundw
              case rel => first | exact ⟨p + 1, by omega, by go_num, by trivial⟩ | ((repeat apply Exists.intro); exact ⟨⟨p + 1, by omega, by go_num, by trivial⟩, rfl⟩)
              case measure => simp [intOf]; omega
        · go_wp2_with fail
          go_roundw
          case rel => first | exact ⟨q + 1, by omega, by go_num, by trivial⟩ | ((repeat apply Exists.intro); exact ⟨⟨q + 1, by omega, by go_num, by trivial⟩, rfl⟩)
          case measure => simp [intOf]; omega
    · go_wp2_with fail
      go_ret
      exact ⟨rfl, H7.out.bel⟩
end Go.Proofs.Qxb6609285aDoor
