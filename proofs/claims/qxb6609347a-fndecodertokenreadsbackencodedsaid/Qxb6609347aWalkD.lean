/- The law's walk. -/
import Derived.Test.Qxb6609347aWalkC
import Derived.OwnWalk
import Derived.Laws.AppendOwnNone
import Derived.Deep.DeepCutAuto
namespace Go.Proofs.Qxb6609347a
open Go.RowKit Go.Proofs Go.Shelf
set_option linter.unusedVariables false
set_option linter.unusedSimpArgs false

theorem info5 : (Try.prog.info? 5).map (fun i => (i.zero, i.size, i.bytes)) = some (some (.int .u8 0), 1, 1) := by kernel_rfl

theorem add0 (g j : Nat) : (⟨g, 0, none⟩ : Addr).add j = ⟨g, j, none⟩ := by unfold Addr.add; split <;> simp_all
theorem bc_len (v : Nat) : (Lib.byteCells (Lib.beBytes 8 v)).length = 8 * 1 := by rw [Lib.byteCells_length, Lib.beBytes_length]
theorem bc_one (v : Nat) : ∀ u ∈ Lib.byteCells (Lib.beBytes 8 v), u.oneCell' = true := fun u hu => by
  unfold Lib.byteCells at hu
  obtain ⟨x, _, rfl⟩ := List.mem_map.1 hu
  rfl

set_option maxRecDepth 10000 in
set_option maxHeartbeats 2000000 in
theorem law_some (v n c1 b o : Nat) (x : Addr) (F : Nat → Int) (hv : v < 18446744073709551616) (w : World) (hx0 : 0 < n → x = ⟨b, o, none⟩) (hc : ∀ i, i < n → w.cell? ⟨b, o + i, none⟩ = some (.int .u8 (F i))) :
    Calls Try.prog 3 #[.int .u64 v, .slice (some x) n c1] w fun e w' => e = .returned (.bool true) ∧ Ext w w' := by
  have S : Hid (Slc w (some x) b o n (fun i => .int .u8 (F i))) := ⟨fun h => by rw [hx0 h], hc⟩
  have HXA := hide hx0
  clear hx0
  clear hc
  obtain ⟨i0, hi, hz, hs, hby⟩ := info_parts info5
  go_enter Try.func3, Try.ntmps3
  go_wp2_with fail
  refine (bytes_any _ _ _ _ _).mono ?_
  rintro e w0 ⟨bb, rfl, rfl, hbb⟩
  cases bb
  · go_wp2_with fail
    go_ret
    exact ⟨rfl, Ext.refl _⟩
  have hn := hbb rfl
  clear hbb
  have hni : ¬ (1048576 : Int) < n := by omega
  go_wp2_with fail
  refine (encode_any v hv _).mono ?_
  rintro e w1 ⟨g, cap, rfl, hg, hE, hx⟩
  have HE := hide hE
  have HX1 := hide hx
  clear hE hx
  go_upto_region 9 with (refine wpList_make_own _ rfl _ _ 23 rfl w1.heap.size 5 i0 (.int .u8 0) 1 Try.underlying23 hi hz hs .i64 .i64 _ (8 + n) rfl rfl (by simp) (by rw [hby]; omega) (by unfold maxLen; omega) (Nat.le_refl _) ?_; intro w2 hown2 hgrow2)
  have hEl : Enc w1 g v := HE.out
  have hg1 : g < w1.heap.size := World.block_lt_of_cell? _ _ (hEl 0 _ rfl)
  have hE2 : Enc w2 g v := fun i u hu => hgrow2.cell (hEl i u hu) (by simp)
  have hb2 : Below w1.heap.size w1 w2 := (Below.refl w1.heap.size w1).grown hgrow2 (Nat.le_refl _) (fun q hq => by cases hq)
  go_upto_region 10 with (at_builtin; refine wpList_append_own _ rfl _ _ 23 rfl w1.heap.size 5 i0 (.int .u8 0) 1 1 Try.underlying23 hi hz hs hby rfl (by decide) _ _ _ rfl hown2 ⟨g, 0, none⟩ 8 cap (Lib.byteCells (Lib.beBytes 8 v)) rfl (bc_len v) (fun j u hu => by rw [add0]; exact hE2 j u hu) (bc_one v) (by unfold maxLen; omega) (by omega) hb2.size ?_; intro v3 w3 hown3 hgrow3 hnil3)
  replace hgrow3 : w2.grownBy w3 (some w1.heap.size) := hgrow3
  clear hnil3
  obtain ⟨g3, cap3, rfl⟩ : ∃ g3 cap3, v3 = .slice (some ⟨g3, 0, none⟩) (0 + 8) cap3 := by
    rcases hown3.2 with ⟨_, h⟩ | ⟨g3, cap3, _, h, _⟩
    · omega
    · exact ⟨g3, cap3, h⟩
  have hg3 := (hown3.lt g3 rfl).1
  have hb3 : Below w1.heap.size w1 w3 := hb2.grown hgrow3 hb2.size (fun q hq => by cases hq; exact Nat.le_refl _)
  have hS3 : Slc w3 (some x) b o n (fun i => .int .u8 (F i)) := S.out.ext (HX1.out.trans hb3)
  have hnews : ∀ j u, ((List.range n).map (fun i => Value.int .u8 (F i)))[j]? = some u → w3.cell? (x.add j) = some u := fun j u hu => by
    obtain ⟨hx1, rfl⟩ := List.getElem?_eq_some_iff.1 hu
    have hj : j < n := by simpa using hx1
    rw [HXA.out (by omega), Go.WideShapes.add_plain]
    rw [hS3.cell j hj]
    simp
  go_upto_region 11 with (at_builtin; refine wpList_append_own _ rfl _ _ 23 rfl w1.heap.size 5 i0 (.int .u8 0) 1 1 Try.underlying23 hi hz hs hby rfl (by decide) _ _ _ rfl hown3 x n c1 ((List.range n).map (fun i => .int .u8 (F i))) rfl (by simp) hnews (fun u hu => by obtain ⟨x, _, rfl⟩ := List.mem_map.1 hu; rfl) (by unfold maxLen; omega) (by omega) hb3.size ?_; intro v4 w4 hown4 hgrow4 hnil4)
  replace hgrow4 : w3.grownBy w4 (some g3) := hgrow4
  clear hnil4
  obtain ⟨g4, cap4, cur4, rfl, hg4, _, hle4, hmax4, _⟩ : ∃ g4 cap4 cur4, v4 = .slice (some ⟨g4, 0, none⟩) (0 + 8 + n) cap4 ∧ w1.heap.size ≤ g4 ∧ w4.heap[g4]? = some (.cells cur4 5 (0, 0)) ∧ 0 + 8 + n ≤ cap4 ∧ cap4 ≤ maxLen ∧ cur4.size = cap4 * 1 := by
    rcases hown4.2 with ⟨_, h⟩ | ⟨g4, cap4, cur4, h1, h2, h3, h4, h5, h6, _⟩
    · omega
    · exact ⟨g4, cap4, cur4, h1, h2, h3, h4, h5, h6⟩
  have hb4 : Below w1.heap.size w1 w4 := hb3.grown hgrow4 hb3.size (fun q hq => by cases hq; exact hg3)
  have hcells := hown4.cells (g := g4) rfl
  have HE4 : Hid (Enc w4 g4 v) := fun i u hu => by
    have h2 := hcells i u (by
      have hi' : i < (Lib.byteCells (Lib.beBytes 8 v)).length := (List.getElem?_eq_some_iff.1 hu).1
      rw [List.nil_append, List.getElem?_append_left hi']; exact hu)
    rw [add0] at h2; exact h2
  have HR4 : Hid (∀ i, i < n → w4.cell? ⟨g4, 8 + i, none⟩ = some (.int .u8 (F i))) := fun i hi' => by
    have h2 := hcells (8 + i) (.int .u8 (F i)) (by
      rw [List.nil_append, List.getElem?_append_right (by rw [bc_len]; omega), bc_len, show 8 + i - 8 * 1 = i by omega]
      simp [hi'])
    rw [add0] at h2; exact h2
  have hlt4 : g4 < w4.heap.size := (hown4.lt g4 rfl).2
  have HX4 := hide (HX1.out.trans hb4)
  clear hown2 hown3 hown4 hgrow2 hgrow3 hgrow4 hb2 hb3 hb4 hnews hcells hS3 hE2 hEl HE HX1 hg hg1 hg3 hi hz hs hby
  have hmax : cap4 ≤ 9223372036854775807 := by simpa [maxLen] using hmax4
  have hle : 8 + n ≤ cap4 := by omega
  rw [show 0 + 8 + n = 8 + n by omega]
  clear hmax4 hle4
  go_wp2_with fail
  refine (zztoken_any g4 (8 + n) cap4 v hv w4 (by omega) hle hmax HE4.out hlt4).mono ?_
  rintro e w5 ⟨rv, ⟨ad, had, rfl⟩, rfl, hx5⟩
  have HX5 := hide (HX4.out.trans hx5)
  have HS5 : Hid (Slc w5 (some ad) g4 8 n (fun i => .int .u8 (F i))) := ⟨fun h => by rw [had (by omega)], fun i hi' => hx5.cell (HR4.out i hi')⟩
  have HT5 := hide (S.out.ext HX5.out)
  have HSm := hide (same_any n (cap4 - 8) c1 g4 8 b o (some ad) (some x) F w5 hn HS5.out HT5.out)
  clear had hx5 HX4 HR4 HE4
  rw [show 8 + n - 8 = n by omega]
  by_cases h : v = 0
  · subst h
    go_wp2_with fail
    refine HSm.out.mono ?_
    rintro e w6 ⟨rfl, hx6⟩
    have HX6 := hide (HX5.out.trans hx6)
    clear hx6
    go_wp2_with fail
    go_ret
    exact ⟨rfl, HX6.out⟩
  · have hne : ((v : Int) == 0) = false := by rw [beq_eq_false_iff_ne]; omega
    have hvv : ((v : Int) == (v : Int)) = true := by rw [beq_self_eq_true]
    have hd : decide (v = 0) = false := by simpa using h
    rw [hd]
    go_wp2_with fail
    refine HSm.out.mono ?_
    rintro e w6 ⟨rfl, hx6⟩
    have HX6 := hide (HX5.out.trans hx6)
    clear hx6
    go_wp2_with fail
    go_ret
    exact ⟨rfl, HX6.out⟩

set_option maxRecDepth 10000 in
set_option maxHeartbeats 2000000 in
theorem law_none (v : Nat) (hv : v < 18446744073709551616) (w : World) :
    Calls Try.prog 3 #[.int .u64 v, .slice none 0 0] w fun e w' => e = .returned (.bool true) ∧ Ext w w' := by
  obtain ⟨i0, hi, hz, hs, hby⟩ := info_parts info5
  go_enter Try.func3, Try.ntmps3
  go_wp2_with fail
  refine (bytes_any _ _ _ _ _).mono ?_
  rintro e w0 ⟨bb, rfl, rfl, hbb⟩
  cases bb
  · go_wp2_with fail
    go_ret
    exact ⟨rfl, Ext.refl _⟩
  clear hbb
  go_wp2_with fail
  refine (encode_any v hv _).mono ?_
  rintro e w1 ⟨g, cap, rfl, hg, hE, hx⟩
  have HE := hide hE
  have HX1 := hide hx
  clear hE hx
  go_upto_region 9 with (refine wpList_make_own _ rfl _ _ 23 rfl w1.heap.size 5 i0 (.int .u8 0) 1 Try.underlying23 hi hz hs .i64 .i64 _ 8 rfl rfl (by simp) (by rw [hby]; omega) (by unfold maxLen; omega) (Nat.le_refl _) ?_; intro w2 hown2 hgrow2)
  have hEl : Enc w1 g v := HE.out
  have hg1 : g < w1.heap.size := World.block_lt_of_cell? _ _ (hEl 0 _ rfl)
  have hE2 : Enc w2 g v := fun i u hu => hgrow2.cell (hEl i u hu) (by simp)
  have hb2 : Below w1.heap.size w1 w2 := (Below.refl w1.heap.size w1).grown hgrow2 (Nat.le_refl _) (fun q hq => by cases hq)
  go_upto_region 10 with (at_builtin; refine wpList_append_own _ rfl _ _ 23 rfl w1.heap.size 5 i0 (.int .u8 0) 1 1 Try.underlying23 hi hz hs hby rfl (by decide) _ _ _ rfl hown2 ⟨g, 0, none⟩ 8 cap (Lib.byteCells (Lib.beBytes 8 v)) rfl (bc_len v) (fun j u hu => by rw [add0]; exact hE2 j u hu) (bc_one v) (by unfold maxLen; omega) (by omega) hb2.size ?_; intro v3 w3 hown3 hgrow3 hnil3)
  replace hgrow3 : w2.grownBy w3 (some w1.heap.size) := hgrow3
  clear hnil3
  obtain ⟨g3, cap3, rfl⟩ : ∃ g3 cap3, v3 = .slice (some ⟨g3, 0, none⟩) (0 + 8) cap3 := by
    rcases hown3.2 with ⟨_, h⟩ | ⟨g3, cap3, _, h, _⟩
    · omega
    · exact ⟨g3, cap3, h⟩
  have hg3 := (hown3.lt g3 rfl).1
  have hb3 : Below w1.heap.size w1 w3 := hb2.grown hgrow3 hb2.size (fun q hq => by cases hq; exact Nat.le_refl _)
  go_upto_region 11 with (at_builtin; refine wpList_append_own_none rfl _ _ 23 rfl w1.heap.size 5 i0 1 Try.underlying23 hi _ _ _ rfl hown3 rfl ?_)
  obtain ⟨hle, hmax⟩ : 8 ≤ cap3 ∧ cap3 ≤ 9223372036854775807 := by
    rcases hown3.2 with ⟨_, h⟩ | ⟨_, _, _, h1, _, _, h4, h5, _⟩
    · omega
    · cases h1
      exact ⟨by omega, by simpa [maxLen] using h5⟩
  have hcells := hown3.cells (g := g3) rfl
  have HE4 : Hid (Enc w3 g3 v) := fun i u hu => by
    have h2 := hcells i u (by rw [List.nil_append]; exact hu)
    rw [add0] at h2; exact h2
  have hlt4 : g3 < w3.heap.size := (hown3.lt g3 rfl).2
  have HX4 := hide (HX1.out.trans hb3)
  clear hown2 hown3 hgrow2 hgrow3 hb2 hb3 hcells hE2 hEl HE HX1 hg hg1 hg3 hi hz hs hby
  go_wp2_with fail
  refine (zztoken_any g3 8 cap3 v hv w3 (Nat.le_refl _) hle hmax HE4.out hlt4).mono ?_
  rintro e w5 ⟨rv, ⟨ad, had, rfl⟩, rfl, hx5⟩
  have HX5 := hide (HX4.out.trans hx5)
  have HSm := hide (same_any 0 (cap3 - 8) 0 0 0 0 0 (some ad) none (fun _ => 0) w5 (by omega) ⟨fun h => absurd h (by omega), fun i hi' => absurd hi' (by omega)⟩ ⟨fun h => absurd h (by omega), fun i hi' => absurd hi' (by omega)⟩)
  clear had hx5 HX4 HE4
  by_cases h : v = 0
  · subst h
    go_wp2_with fail
    refine HSm.out.mono ?_
    rintro e w6 ⟨rfl, hx6⟩
    have HX6 := hide (HX5.out.trans hx6)
    clear hx6
    go_wp2_with fail
    go_ret
    exact ⟨rfl, HX6.out⟩
  · have hne : ((v : Int) == 0) = false := by rw [beq_eq_false_iff_ne]; omega
    have hvv : ((v : Int) == (v : Int)) = true := by rw [beq_self_eq_true]
    have hd : decide (v = 0) = false := by simpa using h
    rw [hd]
    go_wp2_with fail
    refine HSm.out.mono ?_
    rintro e w6 ⟨rfl, hx6⟩
    have HX6 := hide (HX5.out.trans hx6)
    clear hx6
    go_wp2_with fail
    go_ret
    exact ⟨rfl, HX6.out⟩
end Go.Proofs.Qxb6609347a
