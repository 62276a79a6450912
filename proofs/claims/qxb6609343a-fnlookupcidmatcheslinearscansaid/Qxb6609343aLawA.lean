/- The law FnLookupCIDMatchesLinearScan. -/
import Derived.Test.Qxb6609343aWalkE
namespace Go.Proofs.Qxb6609343a
open Go.RowKit Go.Proofs
set_option linter.unusedVariables false
set_option linter.unusedSimpArgs false

set_option maxRecDepth 10000 in
set_option maxHeartbeats 4000000 in
theorem lawA_any (n n2 c0 c1 b o b' o' code : Nat) (a a' : Option Addr) (hb : Bool) (lo hi cid lo2 hi2 cid2 : Nat → Nat) (w : World) (hcode : code < 4294967296) (hcid : ∀ i, cid i < 4294967296) (hcid2 : ∀ i, cid2 i < 4294967296)
    (s : Ms w a b o n lo hi cid) (s2 : Ms w a' b' o' n2 lo2 hi2 cid2) :
    Calls Try.prog 4 #[.slice a n c0, .slice a' n2 c1, .bool hb, .int .u32 code] w fun e w' => e = .returned (.bool true) ∧ Ext w w' := by
  have S := hide s
  have S2 := hide s2
  have HCid := hide hcid
  have HCid2 := hide hcid2
  clear s s2 hcid hcid2
  go_enter Try.func4, Try.ntmps4
  go_wp2_with fail
  refine (bytesA_any n n2 c0 c1 a a' hb code w).mono ?_
  rintro e w0 ⟨bb, rfl, rfl⟩
  cases bb
  · go_wp2_with fail
    go_ret
    exact ⟨rfl, Ext.refl _⟩
  by_cases hn : n ≤ 32768
  case neg =>
    have hni : (32768 : Int) < n := by omega
    go_wp2_with fail
    go_ret
    exact ⟨rfl, Ext.refl _⟩
  have hni : ¬ (32768 : Int) < n := by omega
  by_cases hn2 : n2 ≤ 32768
  case neg =>
    have hni2 : (32768 : Int) < n2 := by omega
    go_wp2_with fail
    go_ret
    exact ⟨rfl, Ext.refl _⟩
  have hni2 : ¬ (32768 : Int) < n2 := by omega
  go_wp2_with fail
  refine (ordered_any n c0 b o a lo hi cid w0 hn S.out).mono ?_
  rintro e w1 ⟨bb, rfl, hx1, ho⟩
  cases bb
  · have HX1 := hide hx1
    clear hx1
    go_wp2_with fail
    go_ret
    exact ⟨rfl, HX1.out⟩
  have HO := hide (ho rfl)
  have HX1 := hide hx1
  clear ho hx1
  go_wp2_with fail
  refine (ordered_any n2 c1 b' o' a' lo2 hi2 cid2 w1 hn2 (S2.out.ext HX1.out)).mono ?_
  rintro e w2 ⟨bb, rfl, hx2, ho⟩
  have HX2 := hide (HX1.out.trans hx2)
  clear hx2
  cases bb
  · go_wp2_with fail
    go_ret
    exact ⟨rfl, HX2.out⟩
  have HO2 := hide (ho rfl)
  clear ho
  go_wp2_with fail
  refine (split_any n c0 b o a lo hi cid w2 hn (S.out.ext HX2.out)).mono ?_
  rintro e w3 ⟨rfl, u0, u1, u2, hx3⟩
  have HX3 := hide (HX2.out.trans hx3)
  have U := hide (And.intro u0 (And.intro u1 u2))
  clear hx3 u0 u1 u2
  go_wp2_with fail
  refine (split_any n2 c1 b' o' a' lo2 hi2 cid2 w3 hn2 (S2.out.ext HX3.out)).mono ?_
  rintro e w4 ⟨rfl, u0, u1, u2, hx4⟩
  have HX4 := hide (HX3.out.trans hx4)
  have U4 := hide (And.intro (U.out.1.ext hx4) (And.intro (U.out.2.1.ext hx4) (U.out.2.2.ext hx4)))
  have V := hide (And.intro u0 (And.intro u1 u2))
  clear hx4 u0 u1 u2 U
  go_wp2_with fail
  refine (new_any n2 w3.heap.size (w3.heap.size + 1) (w3.heap.size + 2) lo2 hi2 cid2 none w4 hn2 V.out.1 V.out.2.1 V.out.2.2).mono ?_
  rintro e w5 ⟨rfl, hx5, hm⟩
  have HX5 := hide (HX4.out.trans hx5)
  have U5 := hide (And.intro (U4.out.1.ext hx5) (And.intro (U4.out.2.1.ext hx5) (U4.out.2.2.ext hx5)))
  have HMb := hide hm
  clear hx5 hm V U4
  cases hb
  · go_wp2_with fail
    refine (new_any n w2.heap.size (w2.heap.size + 1) (w2.heap.size + 2) lo hi cid none w5 hn U5.out.1 U5.out.2.1 U5.out.2.2).mono ?_
    rintro e w6 ⟨rfl, hx6, hm⟩
    have HX6 := hide (HX5.out.trans hx6)
    have HM := hide hm
    clear hx6 hm U5
    go_wp2_with fail
    refine (zz_look (look_nil _ _ _ n code lo hi cid w6 hn hcode HCid.out HO.out HM.out)).mono ?_
    rintro e w7 ⟨v, ok, rfl, hl, hx7⟩
    have HX7 := hide (HX6.out.trans hx7)
    have HL := hide hl
    clear hl hx7
    go_wp2_with fail
    refine (scan_any n c0 b o code a lo hi cid w7 hn hcode HCid.out (S.out.ext HX7.out)).mono ?_
    rintro e w8 ⟨v', ok', rfl, hl, hx8⟩
    obtain ⟨rfl, rfl⟩ := HL.out.unique HO.out hl
    have HX8 := hide (HX7.out.trans hx8)
    have e1 : ((v : Int) == (v : Int)) = true := by rw [beq_self_eq_true]
    have e2 : (ok == ok) = true := by cases ok <;> rfl
    clear hl hx8
    cases ok
    all_goals
      go_wp2_with fail
      go_ret
      exact ⟨rfl, HX8.out⟩
  · go_wp2_with fail
    refine (new_any n w2.heap.size (w2.heap.size + 1) (w2.heap.size + 2) lo hi cid _ w5 hn U5.out.1 U5.out.2.1 U5.out.2.2).mono ?_
    rintro e w6 ⟨rfl, hx6, hm⟩
    have HX6 := hide (HX5.out.trans hx6)
    have HM := hide hm
    have HMb6 := hide (HMb.out.ext hx6)
    clear hx6 hm U5 HMb
    go_wp2_with fail
    refine (zz_look (look_base _ _ _ n _ _ _ n2 code lo hi cid lo2 hi2 cid2 w6 hn hn2 hcode HCid.out HCid2.out HO.out HO2.out HM.out HMb6.out)).mono ?_
    rintro e w7 ⟨v, ok, rfl, hl, hx7⟩
    have HX7 := hide (HX6.out.trans hx7)
    have HL := hide hl
    clear hl hx7
    go_wp2_with fail
    refine (scan_any n c0 b o code a lo hi cid w7 hn hcode HCid.out (S.out.ext HX7.out)).mono ?_
    rintro e w8 ⟨v', ok', rfl, hl, hx8⟩
    have HX8 := hide (HX7.out.trans hx8)
    have HL' := hide hl
    clear hl hx8
    cases ok'
    · have HL2 : Hid (LookIs n2 lo2 hi2 cid2 code v ok) := by
        rcases HL.out with ⟨h1, _⟩ | ⟨_, h2⟩
        · have := (h1.unique HO.out HL'.out).2; cases this
        · exact h2
      go_wp2_with fail
      refine (scan_any n2 c1 b' o' code a' lo2 hi2 cid2 w8 hn2 hcode HCid2.out (S2.out.ext HX8.out)).mono ?_
      rintro e w9 ⟨v2, ok2, rfl, hl, hx9⟩
      obtain ⟨rfl, rfl⟩ := HL2.out.unique HO2.out hl
      have HX9 := hide (HX8.out.trans hx9)
      have e1 : ((v : Int) == (v : Int)) = true := by rw [beq_self_eq_true]
      have e2 : (ok == ok) = true := by cases ok <;> rfl
      clear hl hx9
      go_wp2_with fail
      go_ret
      exact ⟨rfl, HX9.out⟩
    · obtain ⟨rfl, rfl⟩ : v = v' ∧ ok = true := by
        rcases HL.out with ⟨h1, h2⟩ | ⟨h1, _⟩
        · exact ⟨(h1.unique HO.out HL'.out).1, h2⟩
        · have := (h1.unique HO.out HL'.out).2; cases this
      have e1 : ((v : Int) == (v : Int)) = true := by rw [beq_self_eq_true]
      go_wp2_with fail
      go_ret
      exact ⟨rfl, HX8.out⟩
end Go.Proofs.Qxb6609343a
