import Derived.Test.Qxb6609285aDoorLaw3A
namespace Go.Proofs.Qxb6609285aDoor
open Go.RowKit Go.Proofs
set_option linter.unusedVariables false
set_option linter.unusedSimpArgs false

theorem neq_dec (b : Bool) (r : Int) (w : World) : (binOp .neq 35 (.agg #[.bool b, .int .i64 r]) (.agg #[.bool b, .int .i64 r])).run Tryd.prog w = .ok (.bool false) w := by
  simp [go_sem]

theorem arr_new (w : World) : ArrAt (w.alloc (.cells #[.int .u64 0, .int .u64 0, .int .u64 0, .int .u64 0, .int .u64 0, .int .u64 0, .int .u64 0, .int .u64 0, .int .u64 0, .int .u64 0, .int .u64 0, .int .u64 0, .int .u64 0, .int .u64 0, .int .u64 0, .int .u64 0, .int .u64 0, .int .u64 0, .int .u64 0, .int .u64 0, .int .u64 0, .int .u64 0, .int .u64 0, .int .u64 0, .int .u64 0, .int .u64 0] 48)) w.heap.size (fun _ => 0) := by
  rw [show (#[.int .u64 0, .int .u64 0, .int .u64 0, .int .u64 0, .int .u64 0, .int .u64 0, .int .u64 0, .int .u64 0, .int .u64 0, .int .u64 0, .int .u64 0, .int .u64 0, .int .u64 0, .int .u64 0, .int .u64 0, .int .u64 0, .int .u64 0, .int .u64 0, .int .u64 0, .int .u64 0, .int .u64 0, .int .u64 0, .int .u64 0, .int .u64 0, .int .u64 0, .int .u64 0] : Array Value) = Array.replicate 26 (.int .u64 0) from rfl]
  refine ⟨?_, ?_⟩
  · intro i hi
    simp [go_sem]
    simp [Array.getElem?_replicate, hi]
  · intro i hi
    simp [go_sem]

set_option maxRecDepth 100000 in
set_option maxHeartbeats 4000000 in
theorem law3_any (rd nf l1 l2 l3 l4 l5 l6 l8 k1 k2 k3 k4 k5 k6 k7 k8 : Nat) (a1 a2 a3 a4 a5 a6 a7 a8 : Option Addr) (b1 b2 b3 b4 b5 b6 b7 b8 o1 o2 o3 o4 o5 o6 o7 o8 : Nat) (M V : Nat → Int) (O D : Nat → Nat) (fw G mr : Nat → Bool)
    (fa : Nat → Option Addr) (fb fo fn fk : Nat → Nat) (F : Nat → Nat → Int) (w : World)
    (hO : ∀ i, O i < 65536) (hF : ∀ j i, Byte (F j i)) (hM : ∀ i, Byte (M i)) (hV : ∀ i, Byte (V i))
    (s1 : Slc w a1 b1 o1 l1 (fun i => .int .u16 (O i))) (s2 : Slc w a2 b2 o2 l2 (fun i => .int .u8 (M i))) (s3 : Slc w a3 b3 o3 l3 (fun i => .int .u8 (V i)))
    (s4 : Slc w a4 b4 o4 l4 (fun i => .bool (fw i))) (s5 : Slc w a5 b5 o5 l5 (fun i => .bool (G i))) (s6 : Slc w a6 b6 o6 l6 (fun i => .bool (mr i)))
    (s7 : Frames w a7 b7 o7 nf fa fb fo fn fk F) (s8 : Slc w a8 b8 o8 l8 (fun i => .int .u8 (D i))) :
    Calls Tryd.prog 4 #[.int .u8 rd, .slice a1 l1 k1, .slice a2 l2 k2, .slice a3 l3 k3, .slice a4 l4 k4, .slice a5 l5 k5, .slice a6 l6 k6, .slice a7 nf k7, .slice a8 l8 k8] w fun e w' =>
      e = .returned (.bool true) ∧ Ext w w' := by
  have S1 := hide s1
  have S2 := hide s2
  have S3 := hide s3
  have S4 := hide s4
  have S5 := hide s5
  have S6 := hide s6
  have S7 := hide s7
  have S8 := hide s8
  have HO := hide hO
  have HF := hide hF
  have HM := hide hM
  have HV := hide hV
  clear s1 s2 s3 s4 s5 s6 s7 s8 hO hF hM hV
  go_enter Tryd.func4, Tryd.ntmps4
  go_wp2_with fail
  refine (bytes3_any rd l1 l2 l3 l4 l5 l6 nf l8 k1 k2 k3 k4 k5 k6 k7 k8 b7 o7 a1 a2 a3 a4 a5 a6 a7 a8 fa fn fk w S7.out.row).mono ?_
  rintro e w' ⟨bb, rfl, rfl, hbb⟩
  cases bb
  · go_wp2_with fail
    go_ret
    exact ⟨rfl, Ext.refl _⟩
  obtain ⟨hsum, hfn⟩ := hbb rfl
  have Hfn := hide hfn
  clear hbb hfn
  by_cases htot : 1048576 < 2 * l1 + l2 + l3 + l4 + l5 + l6 + l8 + 24 * nf
  · have hti : (1048576 : Int) < 2 * (l1 : Int) + l2 + l3 + l4 + l5 + l6 + l8 + 24 * nf := by omega
    go_wp2_with fail
    go_ret
    exact ⟨rfl, Ext.refl _⟩
  have hti : ¬ (1048576 : Int) < 2 * (l1 : Int) + l2 + l3 + l4 + l5 + l6 + l8 + 24 * nf := by omega
  go_wp2_with fail
  go_loopw [19, 20] (fun x y wr => ∃ T k : Nat, k ≤ nf ∧ T ≤ 1048576 ∧ x = .int .i64 T ∧ y = .int .i64 k ∧ wr = w') (fun _ y _ => nf - (intOf y).toNat)
  case atStart => exact ⟨2 * l1 + l2 + l3 + l4 + l5 + l6 + l8 + 24 * nf, 0, by omega, by omega, by go_num, rfl, rfl⟩
  case round =>
    obtain ⟨T, k, hk, hT, rfl, rfl, hwr⟩ := hrel
    obtain rfl : w' = wr := hwr.symm
    clear hwr
    by_cases hlt : k < nf
    · have hlti : (k : Int) < nf := by omega
      have had := S7.out.row.ad (by omega)
      subst had
      have hc : w'.cell? ⟨b7, o7 + k, none⟩ = some (.slice (fa k) (fn k) (fk k)) := S7.out.row.cell k hlt
      have hfk := Hfn.out k hlt
      generalize fn k = fnk at *
      go_wp2_with fail
      · go_ret
        exact ⟨rfl, Ext.refl _⟩
      · go_roundw
        case rel => exact ⟨T + fnk, k + 1, by omega, by omega, by go_num, by go_num, by trivial⟩
        case measure => (simp [intOf] <;> omega)
    have hlti : ¬ (k : Int) < nf := by omega
    clear hlt hk hT
    go_wp2_with fail
    refine (ruleCount_any a1 a2 a3 a4 a5 a6 l1 l2 l3 l4 l5 l6 k1 k2 k3 k4 k5 k6 _).mono ?_
    rintro e w0 ⟨n, rfl, rfl, h1, h2, h3, h4, h5, h6⟩
    go_wp2_with fail
    refine (build_any rd n l1 l2 l3 l4 l5 l6 k1 k2 k3 k4 k5 k6 a1 a2 a3 a4 a5 a6 b1 b2 b3 b4 b5 b6 o1 o2 o3 o4 o5 o6 M V O fw G mr _ (by omega) S1.out S2.out S3.out S4.out S5.out S6.out h1 h2 h3 h4 h5 h6).mono ?_
    rintro e w1 ⟨rfl, hB⟩
    have HB := hide hB
    have HX1 := hide hB.xExt
    have hle1 := hB.xExt.size
    clear hB
    go_wp2_with fail
    refine (newTally_any _ _).mono ?_
    rintro e w3 ⟨rfl, rfl⟩
    go_wp2_with fail
    obtain ⟨W4, hW4⟩ : ∃ W, W = ((w1.alloc (.cells (#[.pointer (some ⟨w0.heap.size, 0, none⟩)] ++ Array.replicate 26 (.int .u64 0)) 76)).alloc (.cells #[.int .u64 0, .int .u64 0, .int .u64 0, .int .u64 0, .int .u64 0, .int .u64 0, .int .u64 0, .int .u64 0, .int .u64 0, .int .u64 0, .int .u64 0, .int .u64 0, .int .u64 0, .int .u64 0, .int .u64 0, .int .u64 0, .int .u64 0, .int .u64 0, .int .u64 0, .int .u64 0, .int .u64 0, .int .u64 0, .int .u64 0, .int .u64 0, .int .u64 0, .int .u64 0] 48)) := ⟨_, rfl⟩
    have HT : Hid (TallyAt W4 w1.heap.size w0.heap.size (fun _ => 0)) := by rw [hW4]; exact (tally_new w1 w0.heap.size).ext ((Ext.refl _).alloc _)
    have HX4 : Hid (Ext w1 W4) := by rw [hW4]; exact ((Ext.refl w1).alloc _).alloc _
    have HA : Hid (ArrAt W4 (w1.heap.size + 1) (fun _ => 0)) := by
      have := arr_new (w1.alloc (.cells (#[.pointer (some ⟨w0.heap.size, 0, none⟩)] ++ Array.replicate 26 (.int .u64 0)) 76))
      rw [show (w1.alloc (.cells (#[.pointer (some ⟨w0.heap.size, 0, none⟩)] ++ Array.replicate 26 (.int .u64 0)) 76)).heap.size = w1.heap.size + 1 by simp] at this
      rw [hW4]; exact this
    rw [← hW4]
    clear hW4
    go_loopw [26, 27] (fun x y wr => ∃ (k : Nat) (c : Nat → Int), k ≤ nf ∧ x = .int .u64 (tot c 26) ∧ y = .int .i64 k ∧ Hid (Ext w1 wr) ∧ Hid (TallyAt wr w1.heap.size w0.heap.size c) ∧ Hid (ArrAt wr (w1.heap.size + 1) c) ∧ Hid (∀ i, 0 ≤ c i) ∧ Hid (∀ i, c i ≤ k) ∧ tot c 26 ≤ k) (fun _ y _ => nf - (intOf y).toNat)
    case atStart => exact ⟨0, fun _ => 0, by omega, by rw [tot_zero], rfl, HX4, HT, HA, fun _ => by show (0 : Int) ≤ 0; omega, fun _ => by show (0 : Int) ≤ 0; omega, by rw [tot_zero]; omega⟩
    case round =>
      obtain ⟨k, c, hk, rfl, rfl, HX, HT, HA, Hc0, Hck, htk⟩ := hrel
      have ht0 := tot_nonneg Hc0.out 26
      by_cases hin : k < nf ∧ k < l8
      · obtain ⟨hkn, hk8⟩ := hin
        have hkni : (k : Int) < nf := by omega
        have hk8i : (k : Int) < l8 := by omega
        have had7 := S7.out.row.ad (by omega)
        have had8 := S8.out.ad (by omega)
        subst had7 had8
        have HX0 := hide (HX1.out.trans HX.out)
        have cD : wr.cell? ⟨b8, o8 + k, none⟩ = some (.int .u8 (D k)) := HX0.out.cell (S8.out.cell k hk8)
        have cF : wr.cell? ⟨b7, o7 + k, none⟩ = some (.slice (fa k) (fn k) (fk k)) := HX0.out.cell (S7.out.row.cell k hkn)
        have HS0 := hide ((S7.out.one k hkn).ext HX0.out)
        have hfl := Hfn.out k hkn
        have HFk := hide (HF.out k)
        obtain ⟨d, hDk⟩ : ∃ d, Hid (D k = d) := ⟨_, rfl⟩
        obtain ⟨fak, hfak⟩ : ∃ x, Hid (fa k = x) := ⟨_, rfl⟩
        obtain ⟨fnk, hfnk⟩ : ∃ x, Hid (fn k = x) := ⟨_, rfl⟩
        obtain ⟨fkk, hfkk⟩ : ∃ x, Hid (fk k = x) := ⟨_, rfl⟩
        rw [hDk.out] at cD
        rw [hfak.out, hfnk.out, hfkk.out] at cF
        replace HS0 := hide (HS0.out)
        rw [hfak.out, hfnk.out] at HS0
        rw [hfnk.out] at hfl
        by_cases hd : 1 < d
        · have hdi : (1 : Int) < d := by omega
          go_wp2_with fail
          go_roundw
          case rel => exact ⟨k + 1, c, by omega, rfl, by go_num, HX, HT, HA, Hc0, fun i => by have := Hck.out i; omega, by omega⟩
          case measure => (simp [intOf] <;> omega)
        have hdi : ¬ (1 : Int) < d := by omega
        go_wp2_with fail
        obtain ⟨W5, hW5⟩ : ∃ W, W = (wr.alloc (.cells #[.slice fak fnk fkk, .bool false, .int .u32 0, .int .u32 0, .int .u8 0, .bool false, .int .u16 0, .int .u16 0, .bool false, .int .u8 0] 42)) := ⟨_, rfl⟩
        have HX5 : Hid (Ext wr W5) := by rw [hW5]; exact (Ext.refl wr).alloc _
        have HP : Hid (CellsAt W5 wr.heap.size 0 (pktF fak fnk fkk)) := by
          have := cells_new wr _ (pktF fak fnk fkk) 42 (Ext.refl _)
          rw [hW5]; exact this
        rw [← hW5]
        clear hW5
        have hle := HX.out.size
        have HT5 := hide (HT.out.ext HX5.out)
        have HA5 := hide (HA.out.ext HX5.out)
        have HB5 := hide (HB.out.ext (HX.out.trans HX5.out))
        have hm12 := met_le rd d (min n 12)
        have HD := hide (decC_built (d := d) (b0 := fb k) (o0 := fo k) (by omega) (by omega) HO.out hfl HFk.out HM.out HV.out HB5.out (HS0.out.ext HX5.out) HP.out)
        have hcb := hide (Hck.out (d * 13 + 12))
        refine (tdecide_any w1.heap.size w0.heap.size d _ _ _ _ _ c W5 (by omega) (by omega) HT5.out Hc0.out (fun i => by have := Hck.out i; omega) HD).mono ?_
        rintro e w6 ⟨b, r, rfl, hI, hx6⟩
        have hr12 : r ≤ 12 := by have := hI.le; omega
        have HI := hide hI
        have HT6 := hide ((HT5.out.bump (d * 13 + r) (by omega)).ext hx6)
        have HA6 := hide ((HA5.out.other (b := w1.heap.size) (k := 1 + (d * 13 + r)) (v := .int .u64 (c (d * 13 + r) + 1)) (by omega)).ext hx6)
        have HX6 := hide (((HX.out.trans HX5.out).setCell (p := ⟨w1.heap.size, 1 + (d * 13 + r), none⟩) (show w1.heap.size ≤ w1.heap.size from Nat.le_refl _) (.int .u64 (c (d * 13 + r) + 1))).trans hx6)
        have HP6 : Hid (CellsAt w6 wr.heap.size 0 (pktF fak fnk fkk)) := fun j u hu => hx6.cell (by
          rw [cell_other (a := ⟨w1.heap.size, 1 + (d * 13 + r), none⟩) (b := ⟨wr.heap.size, 0 + j, none⟩) (by intro g; injection g with g1 _ _; have := World.block_lt_of_cell? _ _ HT.out.f; simp at this; omega)]
          exact HP.out j u hu)
        clear hI hx6 HD HB5 HP HX5 HT5 HA5 HT HA
        go_wp2_with fail
        obtain ⟨W7, hW7⟩ : ∃ W, W = w6.alloc (.cells #[.bool b, .int .i64 r] 35) := ⟨_, rfl⟩
        have hx7 : Ext w6 W7 := by rw [hW7]; exact (Ext.refl w6).alloc _
        have d0 : W7.cell? ⟨w6.heap.size, 0, none⟩ = some (.bool b) := by rw [hW7]; simp [go_sem]
        have d1 : W7.cell? ⟨w6.heap.size, 1, none⟩ = some (.int .i64 r) := by rw [hW7]; simp [go_sem]
        rw [← hW7]
        clear hW7
        have HX7 := hide (HX6.out.trans hx7)
        have HX07 := hide (HX1.out.trans HX7.out)
        have HT7 := hide (HT6.out.ext hx7)
        have HA7 := hide (HA6.out.ext hx7)
        have HP7 := hide (HP6.out.ext hx7)
        have D0 := hide d0
        have D1 := hide d1
        clear hx7 HX6 HT6 HA6 HP6 cD cF d0 d1
        have HS7 := hide ((S7.out.one k hkn).ext HX07.out)
        have cD : W7.cell? ⟨b8, o8 + k, none⟩ = some (.int .u8 d) := by rw [← hDk.out]; exact HX07.out.cell (S8.out.cell k hk8)
        have cF : W7.cell? ⟨b7, o7 + k, none⟩ = some (.slice fak fnk fkk) := by rw [← hfak.out, ← hfnk.out, ← hfkk.out]; exact HX07.out.cell (S7.out.row.cell k hkn)
        have CD := hide cD
        replace cD := cell_regrown cD
        replace cF := cell_regrown cF
        have HMo : Hid (∀ dq osq, Calls Tryd.prog 9 #[.int .u8 rd, .int .u8 d, .slice fak fnk fkk, .slice a1 l1 k1, .slice a2 l2 k2, .slice a3 l3 k3, .slice a4 l4 k4, .slice a5 l5 k5, .slice a6 l6 k6, .int .i64 n] (Go.Sort.grow (redrawn W7 dq) osq) fun e w' => e = .returned (.tuple #[.bool b, .int .i64 r]) ∧ Below (Go.Sort.grow (redrawn W7 dq) osq).heap.size (Go.Sort.grow (redrawn W7 dq) osq) w') := fun dq osq => by
          have hy := HX07.out.trans (regrown_ext (w := W7) dq osq)
          have hz := HS7.out.ext (regrown_ext (w := W7) dq osq)
          rw [hfak.out, hfnk.out] at hz
          refine (model_any rd d n fnk l1 l2 l3 l4 l5 l6 fkk k1 k2 k3 k4 k5 k6 fak a1 a2 a3 a4 a5 a6 (fb k) b1 b2 b3 b4 b5 b6 (fo k) o1 o2 o3 o4 o5 o6 (F k) M V O fw G mr _ HO.out hfl hz (S1.out.ext hy) (S2.out.ext hy) (S3.out.ext hy) (S4.out.ext hy) (S5.out.ext hy) (S6.out.ext hy) h1 h2 h3 h4 h5 h6).mono ?_
          rintro e w' ⟨b', r', rfl, hI', hx'⟩
          obtain ⟨rfl, rfl⟩ := HI.out.unique hI'
          exact ⟨rfl, hx'⟩
        refine wp_region_quiet_below (by kernel_rfl) (by kernel_rfl) ?_
        repeat (go_big_quiet_step (exact Calls.regrown_of (HMo.out _ _)))
        refine wpQuiet_nil ?_
        intro _ hw'
        obtain ⟨⟨dq, osq⟩, hw''⟩ := hw'
        subst hw''
        have hx8 := regrown_ext (w := W7) dq osq
        generalize Go.Sort.grow (redrawn W7 dq) osq = W8 at *
        have e0 := hx8.cell D0.out
        have e1 := hx8.cell D1.out
        have HX8 := hide (HX7.out.trans hx8)
        have HT8 := hide (HT7.out.ext hx8)
        have HA8 := hide (HA7.out.ext hx8)
        have HP8 := hide (HP7.out.ext hx8)
        have HB8 := hide (HB.out.ext HX8.out)
        have HS8 := hide (HS7.out.ext hx8)
        rw [hfak.out, hfnk.out] at HS8
        have CD8 := hide (hx8.cell CD.out)
        have hneq := neq_self
        clear hx8 HX7 HX07 HT7 HA7 HP7 HS7 CD D0 D1 cD cF HMo
        have hbb : (b != b) = false := by cases b <;> rfl
        have hrr : ((r : Int) != (r : Int)) = false := by rw [bne_self_eq_false]
        go_wp2_with fail
        refine (filter_any _ (.pointer (some ⟨w0.heap.size, 0, none⟩)) _ HT8.out.f).mono ?_; rintro e W9 ⟨rfl, rfl⟩
        go_wp2_with fail
        have HD9 := hide (decC_built (d := d) (b0 := fb k) (o0 := fo k) (by omega) (by omega) HO.out hfl HFk.out HM.out HV.out HB8.out HS8.out HP8.out)
        have HDe : Hid (∀ dq osq, Calls Tryd.prog 15 #[.pointer (some ⟨w0.heap.size, 0, none⟩), .int .u8 d, .pointer (some ⟨wr.heap.size, 0, none⟩)] (Go.Sort.grow (redrawn W9 dq) osq) fun e w' => e = .returned (.agg #[.bool b, .int .i64 r]) ∧ Below (Go.Sort.grow (redrawn W9 dq) osq).heap.size (Go.Sort.grow (redrawn W9 dq) osq) w') := fun dq osq => by
          refine (HD9.out _ (regrown_ext (w := W9) dq osq)).mono ?_
          rintro e w' ⟨b', r', rfl, hI', hx'⟩
          obtain ⟨rfl, rfl⟩ := HI.out.unique hI'
          exact ⟨rfl, hx'⟩
        have hne := neq_dec b r
        clear HD9 hneq
        replace e0 := cell_regrown e0
        replace e1 := cell_regrown e1
        refine wp_region_quiet_below (by kernel_rfl) (by kernel_rfl) ?_
        repeat (go_big_quiet_step (exact Calls.regrown_of (HDe.out _ _)))
        refine wpQuiet_nil ?_
        intro _ hw'
        obtain ⟨⟨dq, osq⟩, hw''⟩ := hw'
        subst hw''
        have hx9 := regrown_ext (w := W9) dq osq
        clear e0 e1 HDe
        generalize Go.Sort.grow (redrawn W9 dq) osq = W10 at *
        go_wp2_with fail
        have HX10 := hide (HX8.out.trans hx9)
        have HT10 := hide (HT8.out.ext hx9)
        have HA10 := hide (HA8.out.ext hx9)
        have cD := hx9.cell CD8.out
        clear hx9 HX8 HT8 HA8 CD8 HP8 HB8 HS8
        have hlen : d * 13 + r < 26 := by omega
        have hcell := HA10.out.cnt (d * 13 + r) hlen
        have hfr := HA10.out.free (d * 13 + r) hlen
        have hlt10 : w1.heap.size + 1 < W10.heap.size := World.block_lt_of_cell? _ _ hcell
        have cv0 := Hc0.out (d * 13 + r)
        have cv1 := Hck.out (d * 13 + r)
        have HAn := hide (HA10.out.bump (d * 13 + r) hlen)
        have HTn := hide (HT10.out.other (b := w1.heap.size + 1) (k := d * 13 + r) (v := .int .u64 (c (d * 13 + r) + 1)) (by omega))
        have HXn := hide (HX10.out.setCell (p := ⟨w1.heap.size + 1, d * 13 + r, none⟩) (show w1.heap.size ≤ w1.heap.size + 1 by omega) (.int .u64 (c (d * 13 + r) + 1)))
        have hbu : Hid (tot (bump c (d * 13 + r)) 26 = tot c 26 + 1) := tot_bump c _ 26 hlen
        have Hb0 := hide (bump_nonneg Hc0.out (d * 13 + r))
        have Hbk : Hid (∀ i, bump c (d * 13 + r) i ≤ ((k + 1 : Nat) : Int)) := fun i => by have := Hck.out i; unfold bump; split <;> omega
        obtain ⟨cv, hcv⟩ : ∃ x, Hid (c (d * 13 + r) = x) := ⟨_, rfl⟩
        rw [hcv.out] at hcell cv0 cv1 HAn HTn HXn
        clear HT10 HA10 HX10
        have hdi2 : (d : Int) < 2 := by omega
        have hri : (r : Int) < 13 := by omega
        clear hcv hcb HI
        go_region
        have HXd := hide (HXn.out.drew)
        have HTd := hide (HTn.out.ext (Ext.refl _).drew)
        have HAd := hide (HAn.out.ext (Ext.refl _).drew)
        clear HXn HTn HAn hcell hfr cD
        generalize (W10.setCell ⟨w1.heap.size + 1, d * 13 + r, none⟩ (Value.int IntKind.u64 (cv + 1))).drew = W11 at *
        go_wp2_with fail
        go_roundw
        case rel => exact ⟨k + 1, bump c (d * 13 + r), by omega, by rw [hbu.out], by go_num, HXd, HTd, HAd, Hb0, Hbk, by rw [hbu.out]; omega⟩
        case measure => (simp [intOf] <;> omega)
      · have hout : ¬ (k : Int) < nf ∨ ((k : Int) < nf ∧ ¬ (k : Int) < l8) := by omega
        have Htot : Hid (∀ j, j ≤ 26 → 0 ≤ tot c j ∧ tot c j ≤ 1048576) := fun j hj => ⟨tot_nonneg Hc0.out j, by have := tot_le Hc0.out j 26 hj; omega⟩
        have HXw := hide (HX1.out.trans HX.out)
        have Htk : Hid (tot c 26 ≤ k) := htk
        clear hin htk ht0
        obtain ⟨wz, hwz⟩ : ∃ W, W = wr := ⟨_, rfl⟩
        subst hwz
        rcases hout with hout | ⟨hkni, hout⟩
        all_goals
          go_wp2_with fail
          go_loopw [34, 35] (fun x y wr => ∃ q : Nat, q ≤ 2 ∧ x = .int .u64 (tot c (q * 13)) ∧ y = .int .i64 q ∧ wr = wz) (fun _ y _ => 2 - (intOf y).toNat)
          case atStart => exact ⟨0, by omega, rfl, rfl, rfl⟩
          case round =>
            obtain ⟨q, hq, rfl, rfl, hwr⟩ := hrel
            obtain rfl : wz = wr := hwr.symm
            clear hwr
            by_cases hq2 : q < 2
            · have hqd : decide ((q : Int) < 2) = true := by simp; omega
              go_wp2_with fail
              go_loopw [34, 36] (fun x y wr => ∃ p : Nat, p ≤ 13 ∧ x = .int .u64 (tot c (q * 13 + p)) ∧ y = .int .i64 p ∧ wr = wz) (fun _ y _ => 13 - (intOf y).toNat)
              case atStart => exact ⟨0, by omega, rfl, rfl, rfl⟩
              case round =>
                obtain ⟨p, hp, rfl, rfl, hwr⟩ := hrel
                obtain rfl : wz = wr := hwr.symm
                clear hwr
                by_cases hp12 : p ≤ 12
                · have hp12i : (p : Int) ≤ 12 := by omega
                  have hq2i : (q : Int) < 2 := by omega
                  have hp13i : (p : Int) < 13 := by omega
                  have hlen : q * 13 + p < 26 := by omega
                  have hcell := HA.out.cnt (q * 13 + p) hlen
                  have hstep : Hid (tot c (q * 13 + (p + 1)) = tot c (q * 13 + p) + c (q * 13 + p)) := rfl
                  have hc0 := Hc0.out (q * 13 + p)
                  obtain ⟨hs0, hs1⟩ := Htot.out (q * 13 + p) (by omega)
                  obtain ⟨hs2, hs3⟩ := Htot.out (q * 13 + (p + 1)) (by omega)
                  rw [hstep.out] at hs2 hs3
                  have hlt : w1.heap.size + 1 < wz.heap.size := World.block_lt_of_cell? _ _ hcell
                  have hc : Hid (Calls Tryd.prog 12 #[.pointer (some ⟨w1.heap.size, 0, none⟩), .int .u8 q, .int .i64 p] wz fun e w' => e = .returned (.int .u64 (c (q * 13 + p))) ∧ w' = wz) :=
                    count_any w1.heap.size q p _ wz hq2 hp12 (by rw [Nat.add_assoc, HT.out.cnt (q * 13 + p) hlen])
                  have hrel' : Hid (∀ s v : Int, s = tot c (q * 13 + p) → v = c (q * 13 + p) → Value.int .u64 (s + v) = .int .u64 (tot c (q * 13 + (p + 1)))) := fun s v h1 h2 => by rw [h1, h2, hstep.out]
                  obtain ⟨s, hs⟩ : ∃ s, Hid (s = tot c (q * 13 + p)) := ⟨_, rfl⟩
                  obtain ⟨v, hv⟩ : ∃ v, Hid (v = c (q * 13 + p)) := ⟨_, rfl⟩
                  rw [← hs.out] at hs0 hs1 hs2 hs3 ⊢
                  rw [← hv.out] at hcell hc0 hs2 hs3 hc
                  have hvv : (v != v) = false := by rw [bne_self_eq_false]
                  go_wp2_with (go_at_call 12; refine hc.out.mono ?_; rintro e w' ⟨rfl, hw'⟩; rw [hw']; clear hw')
                  go_roundw
                  case rel => exact ⟨p + 1, by omega, by first | exact hrel'.out s v hs.out hv.out | (rw [u64_in _ ⟨hs2, by omega⟩]; exact hrel'.out s v hs.out hv.out), by go_num, by trivial⟩
                  case measure => (simp [intOf] <;> omega)
                · have hp12i : ¬ (p : Int) ≤ 12 := by omega
                  obtain rfl : p = 13 := by omega
                  go_wp2_with fail
                  go_roundw
                  case rel => exact ⟨q + 1, by omega, by rw [show (q + 1) * 13 = q * 13 + 13 by omega], by go_num, by trivial⟩
                  case measure => (simp [intOf] <;> omega)
            · obtain rfl : q = 2 := by omega
              go_wp2_with fail
              go_ret
              exact ⟨rfl, HXw.out⟩
end Go.Proofs.Qxb6609285aDoor
