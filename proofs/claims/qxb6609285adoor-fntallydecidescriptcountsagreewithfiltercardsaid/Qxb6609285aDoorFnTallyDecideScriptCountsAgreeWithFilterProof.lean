import Derived.Test.Qxb6609285aDoorOpen3
import Derived.Test.Qxb6609285aDoorTie
import Derived.Test.Qxb6609285aDoorCards
import Derived.Test.Qxb6609285aDoorLaw3B
import Derived.Below
import Derived.SevenTiedAt
namespace Go.Proofs.Qxb6609285aDoor
open Go.ChangeShapes Go.WideShapes Go.ChangeAt Go.RowKit
set_option linter.unusedVariables false

namespace fnTallyDecideScriptCountsAgreeWithFilter
theorem laid_same : Rows.fnTallyDecideScriptCountsAgreeWithFilterRow.laid = laid3 := rfl

set_option maxRecDepth 100000 in
theorem lifted (os : Os) (started : os.Started) (H : Type) (enc : TypeId × Value → H) :
    ReturnsInHanded {} Tryd.checked os 4 .any (fun w args => (Rows.fnTallyDecideScriptCountsAgreeWithFilterSpec.pre enc Tryd.prog Tryd.f4 [] false w args ∧ laidMetH Tryd.prog laid3 w) ∧ sizedMet enc Tryd.prog Tryd.f4 (OpenSpec.ofChange Rows.fnTallyDecideScriptCountsAgreeWithFilterSpec) false w args)
      (Rows.fnTallyDecideScriptCountsAgreeWithFilterSpec.post enc Tryd.prog Tryd.f4 false true false false) := by
  refine returnsInHanded_of_change_and (C := Tryd.checked) (X := fun w _ => laidMetH Tryd.prog laid3 w) (fun _ _ _ hh h => h.of_heap hh) own started (by kernel_rfl) Tryd.func4
    (ChangeSpec.witness_shaped (enc := enc) (C := Tryd.checked) (os := os) (X := fun w _ => laidMetH Tryd.prog laid3 w) false (World.doorLaid Tryd.prog 400 os) #[.int .u8 0, .slice none 0 0, .slice none 0 0, .slice none 0 0, .slice none 0 0, .slice none 0 0, .slice none 0 0, .slice none 0 0, .slice none 0 0] 8 rfl (World.shaped_of_RefB (by kernel_rfl) (by kernel_rfl)) (by kernel_rfl) (by kernel_rfl) (by kernel_rfl) (door_met os _)) ?_
  intro W base args ds gs before hval0 hW _ _ hL _
  have hval : ∀ (j : Nat) t v, Tryd.f4.params[j]? = some t → args[j]? = some v → Value.okWide Tryd.prog W .any base t v := hval0
  have hW' := hW
  obtain ⟨p, q, hA0, hV, rfl, hfz, hnd⟩ := hW
  have hA : DataW.TrodAll enc Tryd.prog W 0 (fun _ => true) true Tryd.f4.params.toList args.toList ds p := hA0
  rw [Tryd.params4] at hA hval
  obtain ⟨v0, vs0, d0, ds0, p0, q0, hargs, rfl, rfl, h0, r0⟩ := trodAll_cons hA
  obtain ⟨v1, vs1, d1, ds1, p1, q1, rfl, rfl, rfl, h1, r1⟩ := trodAll_cons r0
  obtain ⟨v2, vs2, d2, ds2, p2, q2, rfl, rfl, rfl, h2, r2⟩ := trodAll_cons r1
  obtain ⟨v3, vs3, d3, ds3, p3, q3, rfl, rfl, rfl, h3, r3⟩ := trodAll_cons r2
  obtain ⟨v4, vs4, d4, ds4, p4, q4, rfl, rfl, rfl, h4, r4⟩ := trodAll_cons r3
  obtain ⟨v5, vs5, d5, ds5, p5, q5, rfl, rfl, rfl, h5, r5⟩ := trodAll_cons r4
  obtain ⟨v6, vs6, d6, ds6, p6, q6, rfl, rfl, rfl, h6, r6⟩ := trodAll_cons r5
  obtain ⟨v7, vs7, d7, ds7, p7, q7, rfl, rfl, rfl, h7, r7⟩ := trodAll_cons r6
  obtain ⟨v8, vs8, d8, ds8, p8, q8, rfl, rfl, rfl, h8, r8⟩ := trodAll_cons r7
  obtain ⟨rfl, rfl, rfl⟩ := trodAll_nil r8
  obtain rfl : args = #[v0, v1, v2, v3, v4, v5, v6, v7, v8] := by cases args; simp_all
  obtain ⟨rfl, rfl⟩ := trodVars_none hV
  obtain ⟨a0, rfl, rfl, rfl, w0⟩ := open_int Tryd.underlying5 (hval 0 5 v0 rfl rfl) h0
  obtain ⟨a1, len1, cap1, rfl⟩ := okWide_slice Tryd.underlying23 (hval 1 23 v1 rfl rfl)
  obtain ⟨a2, len2, cap2, rfl⟩ := okWide_slice Tryd.underlying22 (hval 2 22 v2 rfl rfl)
  obtain ⟨a3, len3, cap3, rfl⟩ := okWide_slice Tryd.underlying22 (hval 3 22 v3 rfl rfl)
  obtain ⟨a4, len4, cap4, rfl⟩ := okWide_slice Tryd.underlying24 (hval 4 24 v4 rfl rfl)
  obtain ⟨a5, len5, cap5, rfl⟩ := okWide_slice Tryd.underlying24 (hval 5 24 v5 rfl rfl)
  obtain ⟨a6, len6, cap6, rfl⟩ := okWide_slice Tryd.underlying24 (hval 6 24 v6 rfl rfl)
  obtain ⟨a7, len7, cap7, rfl⟩ := okWide_slice Tryd.underlying45 (hval 7 45 v7 rfl rfl)
  obtain ⟨a8, len8, cap8, rfl⟩ := okWide_slice Tryd.underlying22 (hval 8 22 v8 rfl rfl)
  have lt1 : ∀ x ∈ p1, x.block < W.heap.size := by obtain ⟨m, hm⟩ := h1; exact DataW.trod_lt m _ _ _ hm
  have lt2 : ∀ x ∈ p2, x.block < W.heap.size := by obtain ⟨m, hm⟩ := h2; exact DataW.trod_lt m _ _ _ hm
  have lt3 : ∀ x ∈ p3, x.block < W.heap.size := by obtain ⟨m, hm⟩ := h3; exact DataW.trod_lt m _ _ _ hm
  have lt4 : ∀ x ∈ p4, x.block < W.heap.size := by obtain ⟨m, hm⟩ := h4; exact DataW.trod_lt m _ _ _ hm
  have lt5 : ∀ x ∈ p5, x.block < W.heap.size := by obtain ⟨m, hm⟩ := h5; exact DataW.trod_lt m _ _ _ hm
  have lt6 : ∀ x ∈ p6, x.block < W.heap.size := by obtain ⟨m, hm⟩ := h6; exact DataW.trod_lt m _ _ _ hm
  have lt7 : ∀ x ∈ p7, x.block < W.heap.size := by obtain ⟨m, hm⟩ := h7; exact DataW.trod_lt m _ _ _ hm
  have lt8 : ∀ x ∈ p8, x.block < W.heap.size := by obtain ⟨m, hm⟩ := h8; exact DataW.trod_lt m _ _ _ hm
  obtain ⟨b1, o1, O, s1, hO⟩ := slc_u16 h1
  obtain ⟨b2, o2, M, s2, hM⟩ := slc_bytes h2
  obtain ⟨b3, o3, V, s3, hV3⟩ := slc_bytes h3
  obtain ⟨b4, o4, fw, s4⟩ := slc_bools h4
  obtain ⟨b5, o5, G, s5⟩ := slc_bools h5
  obtain ⟨b6, o6, mr, s6⟩ := slc_bools h6
  obtain ⟨b7, o7, fa, fb, fo, fn, fk, F, s7, hF⟩ := open_frames h7
  obtain ⟨b8, o8, D0, s80, hD0⟩ := slc_bytes h8
  have s8 : Slc W a8 b8 o8 len8 (fun i => .int .u8 (((D0 i).toNat : Nat) : Int)) := ⟨s80.ad, fun i hi => by rw [s80.cell i hi, Int.toNat_of_nonneg (hD0 i).1]⟩
  clear hA0 hval0
  obtain ⟨x0, y0⟩ := bounds_u8 w0
  obtain ⟨rd, rfl⟩ := Int.eq_ofNat_of_zero_le x0
  refine (law3_any rd len7 len1 len2 len3 len4 len5 len6 len8 cap1 cap2 cap3 cap4 cap5 cap6 cap7 cap8 a1 a2 a3 a4 a5 a6 a7 a8 b1 b2 b3 b4 b5 b6 b7 b8 o1 o2 o3 o4 o5 o6 o7 o8 M V O (fun i => (D0 i).toNat) fw G mr fa fb fo fn fk F W hO hF hM hV3 s1 s2 s3 s4 s5 s6 s7 s8).mono fun e W' ⟨he, bel⟩ => ?_
  subst he
  have bel' : Below W.heap.size W W' := bel
  exact ⟨_, rfl, _, _, _, [], _, [], hW', trodAll_mk1 (shut_bool Tryd.underlying4 _), (trodAll_cons_mk (shut_int Tryd.underlying5 w0) (trodAll_cons_mk (Below.trod laidOut (by kernel_rfl) (of_decide_eq_true (by kernel_rfl)) h1 bel' lt1) (trodAll_cons_mk (Below.trod laidOut (by kernel_rfl) (of_decide_eq_true (by kernel_rfl)) h2 bel' lt2) (trodAll_cons_mk (Below.trod laidOut (by kernel_rfl) (of_decide_eq_true (by kernel_rfl)) h3 bel' lt3) (trodAll_cons_mk (Below.trod laidOut (by kernel_rfl) (of_decide_eq_true (by kernel_rfl)) h4 bel' lt4) (trodAll_cons_mk (Below.trod laidOut (by kernel_rfl) (of_decide_eq_true (by kernel_rfl)) h5 bel' lt5) (trodAll_cons_mk (Below.trod laidOut (by kernel_rfl) (of_decide_eq_true (by kernel_rfl)) h6 bel' lt6) (trodAll_cons_mk (Below.trod laidOut (by kernel_rfl) (of_decide_eq_true (by kernel_rfl)) h7 bel' lt7) (trodAll_cons_mk (Below.trod laidOut (by kernel_rfl) (of_decide_eq_true (by kernel_rfl)) h8 bel' lt8) trodAll_mk0))))))))), rfl, bel'.frame _, fun h => by cases h⟩

theorem row_holds : Rows.FnTallyDecideScriptCountsAgreeWithFilterSaid :=
  OpenClaim.holds_of_wide 4 Tryd.f4 rfl rfl rfl rfl rfl rfl rfl ⟨rfl, rfl, rfl, rfl, rfl⟩ rfl rfl rfl rfl rfl (by kernel_rfl) Tryd.func4 (by kernel_rfl)
    (of_decide_eq_true (by kernel_rfl)) (by unfold Func.isWrapper; first | (rw [if_pos (by decide +kernel)]; kernel_rfl) | (rw [if_neg (by decide +kernel)]; exact ⟨rfl, rfl⟩))
    (fun os started H enc _ => lifted os started H enc)
end fnTallyDecideScriptCountsAgreeWithFilter

/-- THE STATEMENT: the tied card. -/
theorem fnTallyDecideScriptCountsAgreeWithFilter_card : Rows.FnTallyDecideScriptCountsAgreeWithFilterCardSaid :=
  Claim7.holds_tied_plain_at .later [] [.data, .data, .data] true (true, "eca8d73fab4a07ff091b605e6fecf44a1ce1165fd550e31d3dcfc9adb8fcaaf8") false
    fnTallyDecideScriptCountsAgreeWithFilter.row_holds (fun _ h => by cases h) (by kernel_rfl) (fun _ h => by cases h) fnTallyDecideScriptCountsAgreeWithFilter_row_tie rfl ⟨rfl, rfl⟩ (by kernel_rfl) rfl
    (fun f fn hf hfn => by
      obtain rfl : f = 4 := Option.some.inj ((show Tryd.prog.funcNamed Rows.fnTallyDecideScriptCountsAgreeWithFilterRow.func = some 4 by kernel_rfl).symm.trans hf) |>.symm
      obtain rfl : fn = Tryd.f4 := (Option.some.inj (Tryd.func4.symm.trans hfn)).symm
      exact ⟨by kernel_rfl, fun j t ht => by
        rw [Tryd.params4] at ht
        have hm : t ∈ [5, 23, 22, 22, 24, 24, 24, 45, 22] := by simpa using Array.mem_of_getElem? ht
        have hall : ([5, 23, 22, 22, 24, 24, 24, 45, 22].all fun u => !Tryd.prog.wantsStandIn u) = true := by kernel_rfl
        exact (show Tryd.prog.wantsStandIn t = false by simpa using List.all_eq_true.1 hall t hm)⟩)
    (by kernel_rfl)
#print axioms fnTallyDecideScriptCountsAgreeWithFilter_card
end Go.Proofs.Qxb6609285aDoor
