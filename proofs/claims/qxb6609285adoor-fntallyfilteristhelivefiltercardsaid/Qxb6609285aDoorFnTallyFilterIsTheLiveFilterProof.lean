import Derived.Test.Qxb6609285aDoorStart
import Derived.Test.Qxb6609285aDoorTie
import Derived.Test.Qxb6609285aDoorCards
import Derived.Test.Qxb6609285aDoorLawB
import Derived.Test.Qxb6609285aDoorLawC
import Derived.Test.Qxb6609285aDoorLawD
import Derived.ProofKit
import Derived.OpenShut
import Derived.SevenTiedAt
namespace Go.Proofs.Qxb6609285aDoor
open Go.ChangeShapes Go.WideShapes Go.ChangeAt Go.RowKit
set_option linter.unusedVariables false

/-- The law returns true at every input. -/
theorem law1_any (src bits x : Int) (fwd ip : Bool) (w : World) (w0 : (Lit.int .u32 src).wf = true) (w1 : (Lit.int .u8 bits).wf = true) (w4 : (Lit.int .u32 x).wf = true) :
    Calls Tryd.prog 5 #[.int .u32 src, .int .u8 bits, .bool fwd, .bool ip, .int .u32 x] w fun e w' => e = .returned (.bool true) ∧ Below w.heap.size w w' := by
  obtain ⟨s0, s1⟩ := bounds_u32 w0
  obtain ⟨b0, b1⟩ := bounds_u8 w1
  obtain ⟨x0, x1⟩ := bounds_u32 w4
  have s1' : src < 4294967296 := by omega
  have x1' : x < 4294967296 := by omega
  by_cases hb : bits ≤ 32
  · cases ip
    · exact law1_noip src bits fwd x w s0 s1' x0 x1' b0 hb
    · by_cases h0 : bits = 0
      · exact law1_zero src bits fwd x w s0 s1' x0 x1' b0 hb (by simp [h0]) (by simp [inPfx, h0])
      · have e0 : (bits == 0) = false := by simpa using h0
        have hn := net_eq src x bits s0 s1' x0 x1' (by omega) hb
        cases hin : inPfx src x bits
        · exact law1_out src bits fwd x w s0 s1' x0 x1' (by omega) hb e0 hin (hn.trans hin)
        · exact law1_hit src bits fwd x w s0 s1' x0 x1' (by omega) hb e0 hin (hn.trans hin)
  · cases ip
    · exact law1_badno src bits fwd x w s0 s1' x0 x1' b0 (by omega)
    · exact law1_bad src bits fwd x w s0 s1' x0 x1' b0 (by omega)

namespace fnTallyFilterIsTheLiveFilter
set_option maxRecDepth 100000 in
theorem lifted (os : Os) (started : os.Started) (H : Type) (enc : TypeId × Value → H) :
    ReturnsInHanded {} Tryd.checked os 5 .any (fun w args => (Rows.fnTallyFilterIsTheLiveFilterSpec.pre enc Tryd.prog Tryd.f5 [] false w args ∧ laidMetH Tryd.prog laid3 w) ∧ sizedMet enc Tryd.prog Tryd.f5 (OpenSpec.ofChange Rows.fnTallyFilterIsTheLiveFilterSpec) false w args)
      (Rows.fnTallyFilterIsTheLiveFilterSpec.post enc Tryd.prog Tryd.f5 false true false false) := by
  refine returnsInHanded_of_change_and (C := Tryd.checked) (X := fun w _ => laidMetH Tryd.prog laid3 w) (fun _ _ _ hh h => h.of_heap hh) own started (by kernel_rfl) Tryd.func5
    (ChangeSpec.witness_shaped (enc := enc) (C := Tryd.checked) (os := os) (X := fun w _ => laidMetH Tryd.prog laid3 w) false (World.doorLaid Tryd.prog 400 os) #[.int .u32 0, .int .u8 0, .bool false, .bool false, .int .u32 0] 8 rfl (World.shaped_of_RefB (by kernel_rfl) (by kernel_rfl)) (by kernel_rfl) (by kernel_rfl) (by kernel_rfl) (door_met os _)) ?_
  intro W base args ds gs before hval0 hW _ _ hL _
  have hval : ∀ (j : Nat) t v, Tryd.f5.params[j]? = some t → args[j]? = some v → Value.okWide Tryd.prog W .any base t v := hval0
  have hW' := hW
  obtain ⟨p, q, hA0, hV, rfl, hfz, hnd⟩ := hW
  have hA : DataW.TrodAll enc Tryd.prog W 0 (fun _ => true) true Tryd.f5.params.toList args.toList ds p := hA0
  rw [Tryd.params5] at hA hval
  obtain ⟨v0, vs0, d0, ds0, p0, q0, hargs, rfl, rfl, h0, r0⟩ := trodAll_cons hA
  obtain ⟨v1, vs1, d1, ds1, p1, q1, rfl, rfl, rfl, h1, r1⟩ := trodAll_cons r0
  obtain ⟨v2, vs2, d2, ds2, p2, q2, rfl, rfl, rfl, h2, r2⟩ := trodAll_cons r1
  obtain ⟨v3, vs3, d3, ds3, p3, q3, rfl, rfl, rfl, h3, r3⟩ := trodAll_cons r2
  obtain ⟨v4, vs4, d4, ds4, p4, q4, rfl, rfl, rfl, h4, r4⟩ := trodAll_cons r3
  obtain ⟨rfl, rfl, rfl⟩ := trodAll_nil r4
  obtain rfl : args = #[v0, v1, v2, v3, v4] := by cases args; simp_all
  obtain ⟨rfl, rfl⟩ := trodVars_none hV
  obtain ⟨a0, rfl, rfl, rfl, w0⟩ := open_int Tryd.underlying39 (hval 0 39 v0 rfl rfl) h0
  obtain ⟨a1, rfl, rfl, rfl, w1⟩ := open_int Tryd.underlying5 (hval 1 5 v1 rfl rfl) h1
  obtain ⟨a2, rfl, rfl, rfl⟩ := open_bool Tryd.underlying4 (hval 2 4 v2 rfl rfl) h2
  obtain ⟨a3, rfl, rfl, rfl⟩ := open_bool Tryd.underlying4 (hval 3 4 v3 rfl rfl) h3
  obtain ⟨a4, rfl, rfl, rfl, w4⟩ := open_int Tryd.underlying39 (hval 4 39 v4 rfl rfl) h4
  clear hA0 hval0
  refine (law1_any a0 a1 a4 a2 a3 W w0 w1 w4).mono fun e W' ⟨he, bel⟩ => ?_
  subst he
  exact ⟨_, rfl, _, _, _, [], _, [], hW', trodAll_mk1 (shut_bool Tryd.underlying4 _), (trodAll_cons_mk (shut_int Tryd.underlying39 w0) (trodAll_cons_mk (shut_int Tryd.underlying5 w1) (trodAll_cons_mk (shut_bool Tryd.underlying4 _) (trodAll_cons_mk (shut_bool Tryd.underlying4 _) (trodAll_cons_mk (shut_int Tryd.underlying39 w4) trodAll_mk0))))), rfl, bel.frame _, fun h => by cases h⟩

theorem row_holds : Rows.FnTallyFilterIsTheLiveFilterSaid :=
  OpenClaim.holds_of_wide 5 Tryd.f5 rfl rfl rfl rfl rfl rfl rfl ⟨rfl, rfl, rfl, rfl, rfl⟩ rfl rfl rfl rfl rfl (by kernel_rfl) Tryd.func5 (by kernel_rfl)
    (of_decide_eq_true (by kernel_rfl)) (by unfold Func.isWrapper; first | (rw [if_pos (by decide +kernel)]; kernel_rfl) | (rw [if_neg (by decide +kernel)]; exact ⟨rfl, rfl⟩))
    (fun os started H enc _ => lifted os started H enc)
end fnTallyFilterIsTheLiveFilter

/-- THE STATEMENT: the tied card. -/
theorem fnTallyFilterIsTheLiveFilter_card : Rows.FnTallyFilterIsTheLiveFilterCardSaid :=
  Claim7.holds_tied_plain_at .later [] [.data, .data, .data] true (true, "eca8d73fab4a07ff091b605e6fecf44a1ce1165fd550e31d3dcfc9adb8fcaaf8") false
    fnTallyFilterIsTheLiveFilter.row_holds (fun _ h => by cases h) (by kernel_rfl) (fun _ h => by cases h) fnTallyFilterIsTheLiveFilter_row_tie rfl ⟨rfl, rfl⟩ (by kernel_rfl) rfl
    (fun f fn hf hfn => by
      obtain rfl : f = 5 := Option.some.inj ((show Tryd.prog.funcNamed Rows.fnTallyFilterIsTheLiveFilterRow.func = some 5 by kernel_rfl).symm.trans hf) |>.symm
      obtain rfl : fn = Tryd.f5 := (Option.some.inj (Tryd.func5.symm.trans hfn)).symm
      exact ⟨by kernel_rfl, fun j t ht => by
        rw [Tryd.params5] at ht
        have hm : t ∈ [39, 5, 4, 4, 39] := by simpa using Array.mem_of_getElem? ht
        have hall : ([39, 5, 4, 4, 39].all fun u => !Tryd.prog.wantsStandIn u) = true := by kernel_rfl
        exact (show Tryd.prog.wantsStandIn t = false by simpa using List.all_eq_true.1 hall t hm)⟩)
    (by kernel_rfl)
#print axioms fnTallyFilterIsTheLiveFilter_card
end Go.Proofs.Qxb6609285aDoor
