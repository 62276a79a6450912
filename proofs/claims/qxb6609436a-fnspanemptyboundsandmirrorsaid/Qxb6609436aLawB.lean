/- The second law: its plain facts; its walk. -/
import Derived.Test.Qxb6609436aLawA
import Derived.Laws.BitsAllLaws
namespace Go.Proofs.Qxb6609436a
open Go.RowKit Go.Proofs
set_option linter.unusedVariables false
set_option linter.unusedSimpArgs false

/-- ^x of an int64 is -1 - x. -/
theorem not64 (a : Int) (h0 : -9223372036854775808 ≤ a) (h1 : a ≤ 9223372036854775807) : bits .xor .i64 (-1) a = -1 - a := by
  show IntKind.i64.wrap ((BitVec.ofInt 64 (-1) ^^^ BitVec.ofInt 64 a).toNat : Int) = _
  have h : BitVec.ofInt 64 (-1) = BitVec.allOnes 64 := by decide
  rw [h, BitVec.allOnes_xor, BitVec.toNat_not, BitVec.toNat_ofInt, IntKind.wrap_i64]
  omega

theorem emp_within (v : Int) (ls : Bool) (lv : Int) (li hs : Bool) (hv : Int) (hi : Bool) (h : emp ls lv li hs hv hi = true) : wth v false ls lv li hs hv hi = false := by
  revert h
  unfold emp wth loOk hiOk
  cases ls <;> cases li <;> cases hs <;> cases hi <;> simp <;> omega
theorem emp_order (ls : Bool) (lv : Int) (li hs : Bool) (hv : Int) (hi : Bool) (h : emp ls lv li hs hv hi = false) (h1 : ls = true) (h2 : hs = true) : ¬ hv < lv := by
  subst h1 h2
  revert h
  unfold emp
  simp
  omega
theorem emp_mirror (ls : Bool) (lv : Int) (li hs : Bool) (hv : Int) (hi : Bool) : emp hs (-1 - hv) hi ls (-1 - lv) li = emp ls lv li hs hv hi := by
  have h1 : (-1 - lv < -1 - hv) = (hv < lv) := propext ⟨fun h => by omega, fun h => by omega⟩
  have h2 : (-1 - hv = -1 - lv) = (lv = hv) := propext ⟨fun h => by omega, fun h => by omega⟩
  unfold emp
  simp only [h1, h2]
  cases ls <;> cases li <;> cases hs <;> cases hi <;> rfl
theorem emp_lo (lv : Int) (li hs : Bool) (hv : Int) (hi : Bool) : emp false lv li hs hv hi = false := rfl
theorem emp_hi (ls : Bool) (lv : Int) (li : Bool) (hv : Int) (hi : Bool) : emp ls lv li false hv hi = false := by cases ls <;> rfl

set_option maxHeartbeats 2000000 in
theorem lawB_none (ls : Bool) (lv : Int) (li hs : Bool) (hv : Int) (hi listed : Bool) (v : Int) (w : World)
    (l0 : -9223372036854775808 ≤ lv) (l1 : lv ≤ 9223372036854775807) (k0 : -9223372036854775808 ≤ hv) (k1 : hv ≤ 9223372036854775807) :
    Calls Try.prog 4 #[.bool ls, .int .i64 lv, .bool li, .bool hs, .int .i64 hv, .bool hi, .bool listed, .slice none 0 0, .int .i64 v] w fun e w' => e = .returned (.bool true) ∧ Ext w w' := by
  have H8 := hide (fun w => bytesA_any ls lv li hs hv hi listed none 0 0 v w)
  have H6 := hide (fun a m k w => empty_any ls lv li hs hv hi listed a m k w)
  have HM := hide (fun a m k w => empty_any hs (-1 - hv) hi ls (-1 - lv) li listed a m k w)
  have HA := hide (fun a m k w => empty_any false lv li hs hv hi listed a m k w)
  have HB := hide (fun a m k w => empty_any ls lv li false hv hi listed a m k w)
  have H9 : Hid (∀ w, Calls Try.prog 9 #[.int .i64 v, .bool false, .bool ls, .int .i64 lv, .bool li, .bool hs, .int .i64 hv, .bool hi] w fun e w' => e = .returned (.bool (wth v false ls lv li hs hv hi)) ∧ w' = w) := fun w => within_any v false ls lv li hs hv hi w
  have hnl := not64 lv l0 l1
  have hnh := not64 hv k0 k1
  rw [emp_mirror] at HM
  rw [emp_lo] at HA
  rw [emp_hi] at HB
  have HW := hide (emp_within v ls lv li hs hv hi)
  have HO := hide (emp_order ls lv li hs hv hi)
  have HX9 := hide (Ext.refl w)
  generalize emp ls lv li hs hv hi = r at *
  generalize wth v false ls lv li hs hv hi = q at *
  go_enter Try.func4, Try.ntmps4
  go_wp2_with fail
  refine (H8.out _).mono ?_
  rintro e w0 ⟨bb, rfl, rfl⟩
  cases bb
  · go_wp2_with fail
    go_ret
    exact ⟨rfl, Ext.refl _⟩
  go_wp2_with fail
  refine (H6.out _ _ _ _).mono ?_
  rintro e w1 ⟨rfl, hx⟩
  have HX1 := hide (HX9.out.trans hx)
  clear hx
  cases r
  · have HO1 := hide (HO.out rfl)
    cases ls
    · go_wp2_with fail
      all_goals
        refine (HM.out _ _ _ _).mono ?_
        rintro e w3 ⟨rfl, hx⟩
        have HX3 := hide (HX1.out.trans hx)
        clear hx
        go_wp2_with fail
        refine (HA.out _ _ _ _).mono ?_
        rintro e w4 ⟨rfl, hx⟩
        have HX4 := hide (HX3.out.trans hx)
        clear hx
        go_wp2_with fail
        refine (HB.out _ _ _ _).mono ?_
        rintro e w5 ⟨rfl, hx⟩
        have HX5 := hide (HX4.out.trans hx)
        clear hx
        go_wp2_with fail
        go_ret
        exact ⟨rfl, HX5.out⟩
    · cases hs
      · go_wp2_with fail
        all_goals
          refine (HM.out _ _ _ _).mono ?_
          rintro e w3 ⟨rfl, hx⟩
          have HX3 := hide (HX1.out.trans hx)
          clear hx
          go_wp2_with fail
          refine (HA.out _ _ _ _).mono ?_
          rintro e w4 ⟨rfl, hx⟩
          have HX4 := hide (HX3.out.trans hx)
          clear hx
          go_wp2_with fail
          refine (HB.out _ _ _ _).mono ?_
          rintro e w5 ⟨rfl, hx⟩
          have HX5 := hide (HX4.out.trans hx)
          clear hx
          go_wp2_with fail
          go_ret
          exact ⟨rfl, HX5.out⟩
      · have ho := HO1.out rfl rfl
        go_wp2_with fail
        all_goals
          refine (HM.out _ _ _ _).mono ?_
          rintro e w3 ⟨rfl, hx⟩
          have HX3 := hide (HX1.out.trans hx)
          clear hx
          go_wp2_with fail
          refine (HA.out _ _ _ _).mono ?_
          rintro e w4 ⟨rfl, hx⟩
          have HX4 := hide (HX3.out.trans hx)
          clear hx
          go_wp2_with fail
          refine (HB.out _ _ _ _).mono ?_
          rintro e w5 ⟨rfl, hx⟩
          have HX5 := hide (HX4.out.trans hx)
          clear hx
          go_wp2_with fail
          go_ret
          exact ⟨rfl, HX5.out⟩
  · have hq := HW.out rfl
    subst hq
    go_wp2_with fail
    refine (H9.out _).mono ?_
    rintro e w2 ⟨rfl, rfl⟩
    go_wp2_with fail
    all_goals
      refine (HM.out _ _ _ _).mono ?_
      rintro e w3 ⟨rfl, hx⟩
      have HX3 := hide (HX1.out.trans hx)
      clear hx
      go_wp2_with fail
      refine (HA.out _ _ _ _).mono ?_
      rintro e w4 ⟨rfl, hx⟩
      have HX4 := hide (HX3.out.trans hx)
      clear hx
      go_wp2_with fail
      refine (HB.out _ _ _ _).mono ?_
      rintro e w5 ⟨rfl, hx⟩
      have HX5 := hide (HX4.out.trans hx)
      clear hx
      go_wp2_with fail
      go_ret
      exact ⟨rfl, HX5.out⟩

set_option maxHeartbeats 2000000 in
theorem lawB_some (ls : Bool) (lv : Int) (li hs : Bool) (hv : Int) (hi listed : Bool) (x : Addr) (n c : Nat) (z : List Int) (v : Int) (w : World) (hn : n ≤ z.length) (hc : ∀ i, i < z.length → w.cell? (x.add i) = some (.int .i64 (z.getD i 0)))
    (l0 : -9223372036854775808 ≤ lv) (l1 : lv ≤ 9223372036854775807) (k0 : -9223372036854775808 ≤ hv) (k1 : hv ≤ 9223372036854775807) :
    Calls Try.prog 4 #[.bool ls, .int .i64 lv, .bool li, .bool hs, .int .i64 hv, .bool hi, .bool listed, .slice (some x) n c, .int .i64 v] w fun e w' => e = .returned (.bool true) ∧ Ext w w' := by
  have H8 := hide (fun w => bytesA_any ls lv li hs hv hi listed (some x) n c v w)
  have H6 := hide (fun a m k w => empty_any ls lv li hs hv hi listed a m k w)
  have HM := hide (fun a m k w => empty_any hs (-1 - hv) hi ls (-1 - lv) li listed a m k w)
  have HA := hide (fun a m k w => empty_any false lv li hs hv hi listed a m k w)
  have HB := hide (fun a m k w => empty_any ls lv li false hv hi listed a m k w)
  have H9 : Hid (∀ w, Calls Try.prog 9 #[.int .i64 v, .bool false, .bool ls, .int .i64 lv, .bool li, .bool hs, .int .i64 hv, .bool hi] w fun e w' => e = .returned (.bool (wth v false ls lv li hs hv hi)) ∧ w' = w) := fun w => within_any v false ls lv li hs hv hi w
  have hnl := not64 lv l0 l1
  have hnh := not64 hv k0 k1
  rw [emp_mirror] at HM
  rw [emp_lo] at HA
  rw [emp_hi] at HB
  have HW := hide (emp_within v ls lv li hs hv hi)
  have HO := hide (emp_order ls lv li hs hv hi)
  obtain ⟨w9, hcp, hx9⟩ := copy22 w n c x z hn hc
  have HX9 := hide hx9
  clear hc hx9 hn
  generalize emp ls lv li hs hv hi = r at *
  generalize wth v false ls lv li hs hv hi = q at *
  go_enter Try.func4, Try.ntmps4
  go_wp2_with fail
  refine (H8.out _).mono ?_
  rintro e w0 ⟨bb, rfl, rfl⟩
  cases bb
  · go_wp2_with fail
    go_ret
    exact ⟨rfl, Ext.refl _⟩
  by_cases hb : 131072 < n
  · have hbi : (131072 : Int) < n := by omega
    go_wp2_with fail
    go_ret
    exact ⟨rfl, Ext.refl _⟩
  have hbi : ¬ (131072 : Int) < n := by omega
  have hmk := make22 n (by omega)
  go_wp2_with fail
  refine (H6.out _ _ _ _).mono ?_
  rintro e w1 ⟨rfl, hx⟩
  have HX1 := hide (HX9.out.trans hx)
  clear hx
  cases r
  · have HO1 := hide (HO.out rfl)
    cases ls
    · go_wp2_with fail
      all_goals
        refine (HM.out _ _ _ _).mono ?_
        rintro e w3 ⟨rfl, hx⟩
        have HX3 := hide (HX1.out.trans hx)
        clear hx
        go_wp2_with fail
        refine (HA.out _ _ _ _).mono ?_
        rintro e w4 ⟨rfl, hx⟩
        have HX4 := hide (HX3.out.trans hx)
        clear hx
        go_wp2_with fail
        refine (HB.out _ _ _ _).mono ?_
        rintro e w5 ⟨rfl, hx⟩
        have HX5 := hide (HX4.out.trans hx)
        clear hx
        go_wp2_with fail
        go_ret
        exact ⟨rfl, HX5.out⟩
    · cases hs
      · go_wp2_with fail
        all_goals
          refine (HM.out _ _ _ _).mono ?_
          rintro e w3 ⟨rfl, hx⟩
          have HX3 := hide (HX1.out.trans hx)
          clear hx
          go_wp2_with fail
          refine (HA.out _ _ _ _).mono ?_
          rintro e w4 ⟨rfl, hx⟩
          have HX4 := hide (HX3.out.trans hx)
          clear hx
          go_wp2_with fail
          refine (HB.out _ _ _ _).mono ?_
          rintro e w5 ⟨rfl, hx⟩
          have HX5 := hide (HX4.out.trans hx)
          clear hx
          go_wp2_with fail
          go_ret
          exact ⟨rfl, HX5.out⟩
      · have ho := HO1.out rfl rfl
        go_wp2_with fail
        all_goals
          refine (HM.out _ _ _ _).mono ?_
          rintro e w3 ⟨rfl, hx⟩
          have HX3 := hide (HX1.out.trans hx)
          clear hx
          go_wp2_with fail
          refine (HA.out _ _ _ _).mono ?_
          rintro e w4 ⟨rfl, hx⟩
          have HX4 := hide (HX3.out.trans hx)
          clear hx
          go_wp2_with fail
          refine (HB.out _ _ _ _).mono ?_
          rintro e w5 ⟨rfl, hx⟩
          have HX5 := hide (HX4.out.trans hx)
          clear hx
          go_wp2_with fail
          go_ret
          exact ⟨rfl, HX5.out⟩
  · have hq := HW.out rfl
    subst hq
    go_wp2_with fail
    refine (H9.out _).mono ?_
    rintro e w2 ⟨rfl, rfl⟩
    go_wp2_with fail
    all_goals
      refine (HM.out _ _ _ _).mono ?_
      rintro e w3 ⟨rfl, hx⟩
      have HX3 := hide (HX1.out.trans hx)
      clear hx
      go_wp2_with fail
      refine (HA.out _ _ _ _).mono ?_
      rintro e w4 ⟨rfl, hx⟩
      have HX4 := hide (HX3.out.trans hx)
      clear hx
      go_wp2_with fail
      refine (HB.out _ _ _ _).mono ?_
      rintro e w5 ⟨rfl, hx⟩
      have HX5 := hide (HX4.out.trans hx)
      clear hx
      go_wp2_with fail
      go_ret
      exact ⟨rfl, HX5.out⟩
end Go.Proofs.Qxb6609436a
