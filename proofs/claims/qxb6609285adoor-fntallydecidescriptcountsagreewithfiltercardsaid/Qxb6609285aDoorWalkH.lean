import Derived.Test.Qxb6609285aDoorWalkC
import Derived.Test.Qxb6609285aDoorModel
namespace Go.Proofs.Qxb6609285aDoor
open Go.RowKit Go.Proofs
set_option linter.unusedVariables false
set_option linter.unusedSimpArgs false

/-- A slice that came in: its elements. -/
structure Slc (w : World) (a : Option Addr) (b o n : Nat) (f : Nat → Value) : Prop where
  ad : 0 < n → a = some ⟨b, o, none⟩
  cell : ∀ i, i < n → w.cell? ⟨b, o + i, none⟩ = some (f i)
theorem Slc.ext {w w' : World} {a : Option Addr} {b o n : Nat} {f : Nat → Value} (h : Slc w a b o n f) (k : Ext w w') : Slc w' a b o n f := ⟨h.ad, fun i hi => k.cell (h.cell i hi)⟩

/-- The frame's byte that a rule tests. -/
def byteAt (fl : Nat) (F : Nat → Int) (o : Nat) : Int := if o < fl then F o else 0
/-- A rule's own verdict, as the law's model has it. -/
def alone (fl : Nat) (F : Nat → Int) (O : Nat → Nat) (M V : Nat → Int) (G : Nat → Bool) (i : Nat) : Bool := (bits BinOp.and IntKind.u8 (bits BinOp.xor IntKind.u8 (byteAt fl F (O i)) (V i)) (M i) == 0) != G i

/-- A row of 12 cells of the call's own. -/
structure Row12 (w : World) (b : Nat) (f : Nat → Value) : Prop where
  cell : ∀ j, j < 12 → w.cell? ⟨b, j, none⟩ = some (f j)
  free : ∀ j, j < 12 → w.frozen? ⟨b, j, none⟩ = false
theorem Row12.ext {w w' : World} {b : Nat} {f : Nat → Value} (h : Row12 w b f) (k : Ext w w') : Row12 w' b f := ⟨fun j hj => k.cell (h.cell j hj), fun j hj => k.frozen (h.cell j hj) (h.free j hj)⟩
theorem Row12.set {w : World} {b : Nat} {f g : Nat → Value} (h : Row12 w b f) (k : Nat) (v : Value) (hk : k < 12) (hg : ∀ j, j < 12 → g j = if j = k then v else f j) : Row12 (w.setCell ⟨b, k, none⟩ v) b g := by
  refine ⟨fun j hj => ?_, fun j hj => by rw [World.frozen?_setCell]; exact h.free j hj⟩
  rw [hg j hj]
  by_cases e : j = k
  · subst e; rw [if_pos rfl]; exact cell_same (h.cell j hj)
  · rw [if_neg e, cell_other (a := ⟨b, k, none⟩) (b := ⟨b, j, none⟩) (by intro g; injection g with _ g2 _; omega)]; exact h.cell j hj
theorem Row12.other {w : World} {b c k : Nat} {f : Nat → Value} {v : Value} (h : Row12 w b f) (hc : c ≠ b) : Row12 (w.setCell ⟨c, k, none⟩ v) b f :=
  ⟨fun j hj => by rw [cell_other (a := ⟨c, k, none⟩) (b := ⟨b, j, none⟩) (by intro g; injection g with g1 _ _; exact hc g1)]; exact h.cell j hj, fun j hj => by rw [World.frozen?_setCell]; exact h.free j hj⟩

theorem Row12.drew {w : World} {b : Nat} {f : Nat → Value} (h : Row12 w b f) : Row12 w.drew b f := ⟨h.cell, h.free⟩
theorem Row12.new (w : World) (v : Value) (t : TypeId) : Row12 (w.alloc (.cells #[v, v, v, v, v, v, v, v, v, v, v, v] t)) w.heap.size (fun _ => v) := by
  refine ⟨fun j hj => ?_, fun j hj => ?_⟩
  · rw [World.cell?_alloc_at _ _ _ _ rfl]
    rcases j with _ | _ | _ | _ | _ | _ | _ | _ | _ | _ | _ | _ | j <;> first | rfl | omega
  · exact World.frozen?_alloc_at _ _ _ _ rfl
theorem Row12.congr {w : World} {b : Nat} {f g : Nat → Value} (h : Row12 w b f) (e : ∀ j, j < 12 → g j = f j) : Row12 w b g := ⟨fun j hj => by rw [e j hj]; exact h.cell j hj, h.free⟩

/-- The three rows that the model lays: each rule's verdict, its head, the heads' marks. -/
structure Marks (w0 w : World) (N A n q : Nat) (al mr : Nat → Bool) : Prop where
  xExt : Ext w0 w
  rAl : Row12 w N (fun j => .bool (decide (j < n) && al j))
  rHd : Row12 w A (fun j => .int .i64 ((if j < q then hd mr j else 0 : Nat) : Int))
  rOk : Row12 w (A + 1) (fun j => .bool (okv al mr q j))

theorem Marks.start {w0 w : World} {N n : Nat} {al mr : Nat → Bool} (hx : Ext w0 w) (hr : Row12 w N (fun j => .bool (decide (j < n) && al j))) :
    Marks w0 ((w.alloc (.cells #[.int .i64 0, .int .i64 0, .int .i64 0, .int .i64 0, .int .i64 0, .int .i64 0, .int .i64 0, .int .i64 0, .int .i64 0, .int .i64 0, .int .i64 0, .int .i64 0] 67)).alloc (.cells #[.bool false, .bool false, .bool false, .bool false, .bool false, .bool false, .bool false, .bool false, .bool false, .bool false, .bool false, .bool false] 66)) N w.heap.size n 0 al mr := by
  refine ⟨(hx.alloc _).alloc _, hr.ext (((Ext.refl w).alloc _).alloc _), ?_, ?_⟩
  · exact ((Row12.new w (.int .i64 0) 67).ext ((Ext.refl _).alloc _)).congr (fun j hj => rfl)
  · have := Row12.new (w.alloc (.cells #[.int .i64 0, .int .i64 0, .int .i64 0, .int .i64 0, .int .i64 0, .int .i64 0, .int .i64 0, .int .i64 0, .int .i64 0, .int .i64 0, .int .i64 0, .int .i64 0] 67)) (.bool false) 66
    rw [show (w.alloc (.cells #[.int .i64 0, .int .i64 0, .int .i64 0, .int .i64 0, .int .i64 0, .int .i64 0, .int .i64 0, .int .i64 0, .int .i64 0, .int .i64 0, .int .i64 0, .int .i64 0] 67)).heap.size = w.heap.size + 1 by simp] at this
    exact this

/-- A round where rule q heads a chain; its verdict is yes. -/
theorem Marks.head_yes {w0 w : World} {N A n q : Nat} {al mr : Nat → Bool} (h : Marks w0 w N A n q al mr) (hN : w0.heap.size ≤ N) (hA : N < A) (hq : q < 12) (hh : isH mr q = true) (ha : al q = true) :
    Marks w0 ((w.setCell ⟨A, q, none⟩ (.int .i64 (q : Nat))).setCell ⟨A + 1, q, none⟩ (.bool true)) N A n (q + 1) al mr := by
  have e := (hd_self mr q).2 ((isH_iff mr q).1 hh)
  refine ⟨(h.xExt.setCell (Nat.le_trans hN (Nat.le_of_lt hA)) _).setCell (Nat.le_trans hN (by show N ≤ A + 1; omega)) _, (h.rAl.other (by omega)).other (by omega), (h.rHd.set q _ hq fun j hj => ?_).other (by omega), (h.rOk.other (by omega)).set q _ hq fun j hj => ?_⟩
  · by_cases c : j = q
    · subst c; simp [e]
    · rw [if_neg c]; congr 2; simp [show j < q + 1 ↔ j < q by omega]
  · by_cases c : j = q
    · subst c; simp [okv, ha, hh]
    · simp [okv, ha, c]
theorem Marks.head_no {w0 w : World} {N A n q : Nat} {al mr : Nat → Bool} (h : Marks w0 w N A n q al mr) (hN : w0.heap.size ≤ N) (hA : N < A) (hq : q < 12) (hh : isH mr q = true) (ha : al q = false) :
    Marks w0 (((w.setCell ⟨A, q, none⟩ (.int .i64 (q : Nat))).setCell ⟨A + 1, q, none⟩ (.bool true)).setCell ⟨A + 1, q, none⟩ (.bool false)) N A n (q + 1) al mr := by
  have e := (hd_self mr q).2 ((isH_iff mr q).1 hh)
  refine ⟨((h.xExt.setCell (Nat.le_trans hN (Nat.le_of_lt hA)) _).setCell (Nat.le_trans hN (by show N ≤ A + 1; omega)) _).setCell (Nat.le_trans hN (by show N ≤ A + 1; omega)) _, ((h.rAl.other (by omega)).other (by omega)).other (by omega), ((h.rHd.set q _ hq fun j hj => ?_).other (by omega)).other (by omega), ((h.rOk.other (by omega)).set (g := fun j => if j = q then .bool true else .bool (okv al mr q j)) q _ hq fun j hj => rfl).set q _ hq fun j hj => ?_⟩
  · by_cases c : j = q
    · subst c; simp [e]
    · rw [if_neg c]; congr 2; simp [show j < q + 1 ↔ j < q by omega]
  · by_cases c : j = q
    · subst c; simp [okv, ha, e]
    · simp [okv, ha, e, c]
theorem Marks.tied_yes {w0 w : World} {N A n q : Nat} {al mr : Nat → Bool} (h : Marks w0 w N A n (q + 1) al mr) (hN : w0.heap.size ≤ N) (hA : N < A) (hq : q + 1 < 12) (hh : mr q = true) (ha : al (q + 1) = true) :
    Marks w0 (w.setCell ⟨A, q + 1, none⟩ (.int .i64 (hd mr q : Nat))) N A n (q + 1 + 1) al mr := by
  refine ⟨h.xExt.setCell (Nat.le_trans hN (Nat.le_of_lt hA)) _, h.rAl.other (by omega), h.rHd.set (q + 1) _ hq fun j hj => ?_, (h.rOk.other (by omega)).congr fun j hj => ?_⟩
  · by_cases c : j = q + 1
    · subst c; simp [hd, hh]
    · rw [if_neg c]; congr 2; simp [show j < q + 1 + 1 ↔ j < q + 1 by omega]
  · rw [okv]; simp [ha, isH, hh]
theorem Marks.tied_no {w0 w : World} {N A n q : Nat} {al mr : Nat → Bool} (h : Marks w0 w N A n (q + 1) al mr) (hN : w0.heap.size ≤ N) (hA : N < A) (hq : q + 1 < 12) (hh : mr q = true) (ha : al (q + 1) = false) :
    Marks w0 ((w.setCell ⟨A, q + 1, none⟩ (.int .i64 (hd mr q : Nat))).setCell ⟨A + 1, hd mr q, none⟩ (.bool false)) N A n (q + 1 + 1) al mr := by
  have hl := hd_le mr q
  refine ⟨(h.xExt.setCell (Nat.le_trans hN (Nat.le_of_lt hA)) _).setCell (Nat.le_trans hN (by show N ≤ A + 1; omega)) _, (h.rAl.other (by omega)).other (by omega), (h.rHd.set (q + 1) _ hq fun j hj => ?_).other (by omega), (h.rOk.other (by omega)).set (hd mr q) _ (by omega) fun j hj => ?_⟩
  · by_cases c : j = q + 1
    · subst c; simp [hd, hh]
    · rw [if_neg c]; congr 2; simp [show j < q + 1 + 1 ↔ j < q + 1 by omega]
  · rw [okv]
    have e : hd mr (q + 1) = hd mr q := by simp [hd, hh]
    by_cases c : j = hd mr q
    · simp [ha, e, c]
    · simp [ha, e, c, isH, hh]

/-- One mark more. -/
theorem mark_step (al : Nat → Bool) (k : Nat) (v : Value) (hv : v = .bool (al k)) (j : Nat) : (Value.bool (decide (j < k + 1) && al j)) = if j = k then v else .bool (decide (j < k) && al j) := by
  by_cases e : j = k
  · subst e; simp [hv]
  · have : decide (j < k + 1) = decide (j < k) := by rw [Bool.eq_iff_iff]; simp; omega
    simp [e, this]

set_option maxRecDepth 100000 in
set_option maxHeartbeats 2000000 in
theorem model_small (d n fl l1 l2 l3 l4 l5 l6 k0 k1 k2 k3 k4 k5 k6 : Nat) (a0 a1 a2 a3 a4 a5 a6 : Option Addr) (b0 b1 b2 b3 b4 b5 b6 o0 o1 o2 o3 o4 o5 o6 : Nat) (F M V : Nat → Int) (O : Nat → Nat) (fw G mr : Nat → Bool) (w : World)
    (hd2 : d < 2) (hn0 : 0 < n) (hn : n ≤ 12) (hO : ∀ i, O i < 65536) (hfl : fl ≤ 1048576)
    (s0 : Slc w a0 b0 o0 fl (fun i => .int .u8 (F i))) (s1 : Slc w a1 b1 o1 l1 (fun i => .int .u16 (O i))) (s2 : Slc w a2 b2 o2 l2 (fun i => .int .u8 (M i))) (s3 : Slc w a3 b3 o3 l3 (fun i => .int .u8 (V i)))
    (s4 : Slc w a4 b4 o4 l4 (fun i => .bool (fw i))) (s5 : Slc w a5 b5 o5 l5 (fun i => .bool (G i))) (s6 : Slc w a6 b6 o6 l6 (fun i => .bool (mr i)))
    (h1 : n ≤ l1) (h2 : n ≤ l2) (h3 : n ≤ l3) (h4 : n ≤ l4) (h5 : n ≤ l5) (h6 : n ≤ l6) :
    Calls Tryd.prog 9 #[.int .u8 d, .int .u8 d, .slice a0 fl k0, .slice a1 l1 k1, .slice a2 l2 k2, .slice a3 l3 k3, .slice a4 l4 k4, .slice a5 l5 k5, .slice a6 l6 k6, .int .i64 n] w fun e w' =>
      ∃ b r, e = .returned (.tuple #[.bool b, .int .i64 (r : Nat)]) ∧ IsDec n (alone fl F O M V G) mr fw b r ∧ Ext w w' := by
  obtain rfl := s1.ad (by omega)
  obtain rfl := s2.ad (by omega)
  obtain rfl := s3.ad (by omega)
  obtain rfl := s4.ad (by omega)
  obtain rfl := s5.ad (by omega)
  obtain rfl := s6.ad (by omega)
  have hdi : ¬ (1 : Int) < (d : Int) := by omega
  have hni : ((n : Int) == 0) = false := by rw [beq_eq_false_iff_ne]; omega
  have hnn : ¬ (12 : Int) < (n : Int) := by omega
  have S0 := hide s0
  have S1 := hide s1
  have S2 := hide s2
  have S3 := hide s3
  have S4 := hide s4
  have S5 := hide s5
  have S6 := hide s6
  clear s0 s1 s2 s3 s4 s5 s6
  go_enter Tryd.func9, Tryd.ntmps9
  go_wp2
  go_loopw [24] (fun i wr => ∃ k : Nat, k ≤ n ∧ i = .int .i64 k ∧ Hid (Ext w wr) ∧ Hid (Row12 wr w.heap.size (fun j => .bool (decide (j < k) && alone fl F O M V G j))) ∧ w.heap.size < wr.heap.size) (fun i _ => n - (intOf i).toNat)
  case atStart => exact ⟨0, by omega, rfl, (Ext.refl w).alloc _, (Row12.new w _ _).congr (fun j hj => by simp), by simp⟩
  case round =>
    obtain ⟨k, hk, rfl, HX, HR, hz⟩ := hrel
    by_cases hlt : k < n
    · have c1 := HX.out.cell (S1.out.cell k (by omega))
      have c2 := HX.out.cell (S2.out.cell k (by omega))
      have c3 := HX.out.cell (S3.out.cell k (by omega))
      have c5 := HX.out.cell (S5.out.cell k (by omega))
      have r0 := HR.out.cell k (by omega)
      have f0 := HR.out.free k (by omega)
      have hok := hO k
      have i1 : (k : Int) < l1 := by omega
      have i2 : (k : Int) < l2 := by omega
      have i3 : (k : Int) < l3 := by omega
      have i5 : (k : Int) < l5 := by omega
      have i12 : (k : Int) < 12 := by omega
      by_cases hof : O k < fl
      · obtain rfl := S0.out.ad (by omega)
        have c0 := HX.out.cell (S0.out.cell (O k) hof)
        have hv : Hid (alone fl F O M V G k = ((bits BinOp.and IntKind.u8 (bits BinOp.xor IntKind.u8 (F (O k)) (V k)) (M k) == 0) != G k)) := by simp [Hid, alone, byteAt, hof]
        go_wp2
        go_region
        go_wp2
        go_roundw
        case rel => exact ⟨k + 1, by omega, by go_num, (HX.out.setCell (Nat.le_refl _) _).drew, (HR.out.set k _ (by omega) (fun j hj => mark_step _ k _ (by rw [hv.out]; rfl) j)).drew, by simpa [World.setCell] using hz⟩
        case measure => (simp [intOf] <;> omega)
      · have hv : Hid (alone fl F O M V G k = ((bits BinOp.and IntKind.u8 (bits BinOp.xor IntKind.u8 0 (V k)) (M k) == 0) != G k)) := by simp [Hid, alone, byteAt, hof]
        go_wp2
        go_region
        go_wp2
        go_roundw
        case rel => exact ⟨k + 1, by omega, by go_num, (HX.out.setCell (Nat.le_refl _) _).drew, (HR.out.set k _ (by omega) (fun j hj => mark_step _ k _ (by rw [hv.out]; rfl) j)).drew, by simpa [World.setCell] using hz⟩
        case measure => (simp [intOf] <;> omega)
    · obtain rfl : k = n := by omega
      go_wp2
      have HM := hide (Marks.start (mr := mr) HX.out HR.out)
      have HWX := HX
      generalize hA : wr.heap.size = A at *
      generalize hN : w.heap.size = N at *
      have hNw : w.heap.size ≤ N := by omega
      clear HX HR hA hN
      generalize hw1 : ((wr.alloc (.cells #[.int .i64 0, .int .i64 0, .int .i64 0, .int .i64 0, .int .i64 0, .int .i64 0, .int .i64 0, .int .i64 0, .int .i64 0, .int .i64 0, .int .i64 0, .int .i64 0] 67)).alloc (.cells #[.bool false, .bool false, .bool false, .bool false, .bool false, .bool false, .bool false, .bool false, .bool false, .bool false, .bool false, .bool false] 66)) = w1 at *
      clear hw1 HWX
      generalize hal : alone fl F O M V G = al at *
      have HAL := hide hal
      clear hal
      go_loopw [29] (fun i w2 => ∃ q : Nat, q ≤ k ∧ i = .int .i64 q ∧ Hid (Marks w w2 N A k q al mr)) (fun i _ => k - (intOf i).toNat)
      case atStart => exact ⟨0, by omega, rfl, HM.out⟩
      case round =>
        clear HM
        obtain ⟨q, hq, rfl, HM⟩ := hrel
        by_cases hql : q < k
        · have q12 : (q : Int) < 12 := by omega
          have ca : wr.cell? ⟨N, q, none⟩ = some (.bool (al q)) := by rw [HM.out.rAl.cell q (by omega)]; simp [hql]
          have hs := HM.out.xExt.size
          rcases q with _ | p
          · have ch := HM.out.rHd.cell 0 (by omega)
            have fh := HM.out.rHd.free 0 (by omega)
            have co := HM.out.rOk.cell 0 (by omega)
            have fo := HM.out.rOk.free 0 (by omega)
            cases ha : al 0
            · rw [ha] at ca
              have Ha := hide ha
              clear ha
              go_wp2
              go_roundw
              case rel => exact ⟨1, by omega, by go_num, HM.out.head_no hNw hz (by omega) rfl Ha.out⟩
              case measure => (simp [intOf] <;> omega)
            · rw [ha] at ca
              have Ha := hide ha
              clear ha
              go_wp2
              go_roundw
              case rel => exact ⟨1, by omega, by go_num, HM.out.head_yes hNw hz (by omega) rfl Ha.out⟩
              case measure => (simp [intOf] <;> omega)
          · have ch := HM.out.rHd.cell (p + 1) (by omega)
            have fh := HM.out.rHd.free (p + 1) (by omega)
            have co := HM.out.rOk.cell (p + 1) (by omega)
            have fo := HM.out.rOk.free (p + 1) (by omega)
            have hp0 : ((p : Int) + 1 == 0) = false := by rw [beq_eq_false_iff_ne]; omega
            have hp1 : ¬ (p : Int) + 1 - 1 < 0 := by omega
            have i6 : (p : Int) + 1 - 1 < l6 := by omega
            have c6 := HM.out.xExt.cell (S6.out.cell p (by omega))
            cases hm : mr p
            · rw [hm] at c6
              have Hh : Hid (isH mr (p + 1) = true) := by simp [Hid, isH, hm]
              clear hm
              cases ha : al (p + 1)
              · rw [ha] at ca
                have Ha := hide ha
                clear ha
                go_wp2
                go_roundw
                case rel => exact ⟨p + 1 + 1, by omega, by go_num, HM.out.head_no hNw hz (by omega) Hh.out Ha.out⟩
                case measure => (simp [intOf] <;> omega)
              · rw [ha] at ca
                have Ha := hide ha
                clear ha
                go_wp2
                go_roundw
                case rel => exact ⟨p + 1 + 1, by omega, by go_num, HM.out.head_yes hNw hz (by omega) Hh.out Ha.out⟩
                case measure => (simp [intOf] <;> omega)
            · rw [hm] at c6
              have Hm := hide hm
              clear hm
              have hl := hd_le mr p
              have cp : wr.cell? ⟨A, p, none⟩ = some (.int .i64 (hd mr p : Nat)) := by rw [HM.out.rHd.cell p (by omega)]; simp
              have cq := HM.out.rOk.cell (hd mr p) (by omega)
              have fq := HM.out.rOk.free (hd mr p) (by omega)
              have hl12 : (hd mr p : Int) < 12 := by omega
              have Hhd : Hid (∃ x, x = hd mr p) := ⟨_, rfl⟩
              generalize hx : hd mr p = x at *
              have Hx := hide hx
              clear hx Hhd
              cases ha : al (p + 1)
              · rw [ha] at ca
                have Ha := hide ha
                clear ha
                go_wp2
                go_roundw
                case rel => exact ⟨p + 1 + 1, by omega, by go_num, by have := HM.out.tied_no hNw hz (by omega) Hm.out Ha.out; rw [Hx.out] at this; exact this⟩
                case measure => (simp [intOf] <;> omega)
              · rw [ha] at ca
                have Ha := hide ha
                clear ha
                go_wp2
                go_roundw
                case rel => exact ⟨p + 1 + 1, by omega, by go_num, by have := HM.out.tied_yes hNw hz (by omega) Hm.out Ha.out; rw [Hx.out] at this; exact this⟩
                case measure => (simp [intOf] <;> omega)
        · obtain rfl : q = k := by omega
          go_wp2
          have HN0 : Hid (∀ j, j < 0 → hd mr j = j → okv al mr q j = false) := fun j hj => absurd hj (by omega)
          generalize hw3 : wr = w3 at *
          clear hw3
          go_loopw [30] (fun i w4 => ∃ p : Nat, p ≤ q ∧ i = .int .i64 p ∧ w4 = w3 ∧ Hid (∀ j, j < p → hd mr j = j → okv al mr q j = false)) (fun i _ => q - (intOf i).toNat)
          case atStart => exact ⟨0, by omega, rfl, rfl, HN0⟩
          case round =>
            clear HN0
            obtain ⟨p, hp, rfl, hw4, HNn⟩ := hrel
            obtain rfl : w3 = wr := hw4.symm
            clear hw4
            by_cases hpl : p < q
            · have p12 : (p : Int) < 12 := by omega
              have ch : w3.cell? ⟨A, p, none⟩ = some (.int .i64 (hd mr p : Nat)) := by rw [HM.out.rHd.cell p (by omega)]; simp [hpl]
              have co := HM.out.rOk.cell p (by omega)
              have c4 := HM.out.xExt.cell (S4.out.cell p (by omega))
              have i4 : (p : Int) < l4 := by omega
              by_cases hh : hd mr p = p
              · rw [hh] at ch
                have Hh := hide hh
                clear hh
                cases ho : okv al mr q p
                · rw [ho] at co
                  have Ho := hide ho
                  clear ho
                  go_wp2
                  go_roundw
                  case rel => exact ⟨p + 1, by omega, by go_num, by trivial, fun j hj hhj => by (by_cases e : j = p; (subst e; exact Ho.out); exact HNn.out j (by omega) hhj)⟩
                  case measure => (simp [intOf] <;> omega)
                · rw [ho] at co
                  have Ho := hide ho
                  clear ho
                  go_wp2
                  go_ret2
                  exact ⟨fw p, p + 1, rfl, by rw [HAL.out]; exact model_hit hpl Hh.out Ho.out HNn.out, HM.out.xExt⟩
              · have he : ((hd mr p : Int) == (p : Int)) = false := by rw [beq_eq_false_iff_ne]; omega
                have Hh := hide hh
                clear hh
                go_wp2
                go_roundw
                case rel => exact ⟨p + 1, by omega, by go_num, by trivial, fun j hj hhj => by (by_cases e : j = p; (subst e; exact absurd hhj Hh.out); exact HNn.out j (by omega) hhj)⟩
                case measure => (simp [intOf] <;> omega)
            · obtain rfl : p = q := by omega
              go_wp2
              go_ret2
              exact ⟨false, 0, rfl, by rw [HAL.out]; exact model_none (by omega) HNn.out, HM.out.xExt⟩
set_option maxRecDepth 100000 in
set_option maxHeartbeats 2000000 in
theorem model_big (d n fl l1 l2 l3 l4 l5 l6 k0 k1 k2 k3 k4 k5 k6 : Nat) (a0 a1 a2 a3 a4 a5 a6 : Option Addr) (b0 b1 b2 b3 b4 b5 b6 o0 o1 o2 o3 o4 o5 o6 : Nat) (F M V : Nat → Int) (O : Nat → Nat) (fw G mr : Nat → Bool) (w : World)
    (hd2 : d < 2) (hn0 : 0 < n) (hn : 12 < n) (hO : ∀ i, O i < 65536) (hfl : fl ≤ 1048576)
    (s0 : Slc w a0 b0 o0 fl (fun i => .int .u8 (F i))) (s1 : Slc w a1 b1 o1 l1 (fun i => .int .u16 (O i))) (s2 : Slc w a2 b2 o2 l2 (fun i => .int .u8 (M i))) (s3 : Slc w a3 b3 o3 l3 (fun i => .int .u8 (V i)))
    (s4 : Slc w a4 b4 o4 l4 (fun i => .bool (fw i))) (s5 : Slc w a5 b5 o5 l5 (fun i => .bool (G i))) (s6 : Slc w a6 b6 o6 l6 (fun i => .bool (mr i)))
    (h1 : n ≤ l1) (h2 : n ≤ l2) (h3 : n ≤ l3) (h4 : n ≤ l4) (h5 : n ≤ l5) (h6 : n ≤ l6) :
    Calls Tryd.prog 9 #[.int .u8 d, .int .u8 d, .slice a0 fl k0, .slice a1 l1 k1, .slice a2 l2 k2, .slice a3 l3 k3, .slice a4 l4 k4, .slice a5 l5 k5, .slice a6 l6 k6, .int .i64 n] w fun e w' =>
      ∃ b r, e = .returned (.tuple #[.bool b, .int .i64 (r : Nat)]) ∧ IsDec 12 (alone fl F O M V G) mr fw b r ∧ Ext w w' := by
  obtain rfl := s1.ad (by omega)
  obtain rfl := s2.ad (by omega)
  obtain rfl := s3.ad (by omega)
  obtain rfl := s4.ad (by omega)
  obtain rfl := s5.ad (by omega)
  obtain rfl := s6.ad (by omega)
  have hdi : ¬ (1 : Int) < (d : Int) := by omega
  have hnn : (12 : Int) < (n : Int) := by omega
  have S0 := hide s0
  have S1 := hide s1
  have S2 := hide s2
  have S3 := hide s3
  have S4 := hide s4
  have S5 := hide s5
  have S6 := hide s6
  clear s0 s1 s2 s3 s4 s5 s6
  go_enter Tryd.func9, Tryd.ntmps9
  go_wp2
  go_loopw [24] (fun i wr => ∃ k : Nat, k ≤ 12 ∧ i = .int .i64 k ∧ Hid (Ext w wr) ∧ Hid (Row12 wr w.heap.size (fun j => .bool (decide (j < k) && alone fl F O M V G j))) ∧ w.heap.size < wr.heap.size) (fun i _ => 12 - (intOf i).toNat)
  case atStart => exact ⟨0, by omega, rfl, (Ext.refl w).alloc _, (Row12.new w _ _).congr (fun j hj => by simp), by simp⟩
  case round =>
    obtain ⟨k, hk, rfl, HX, HR, hz⟩ := hrel
    by_cases hlt : k < 12
    · have c1 := HX.out.cell (S1.out.cell k (by omega))
      have c2 := HX.out.cell (S2.out.cell k (by omega))
      have c3 := HX.out.cell (S3.out.cell k (by omega))
      have c5 := HX.out.cell (S5.out.cell k (by omega))
      have r0 := HR.out.cell k (by omega)
      have f0 := HR.out.free k (by omega)
      have hok := hO k
      have i1 : (k : Int) < l1 := by omega
      have i2 : (k : Int) < l2 := by omega
      have i3 : (k : Int) < l3 := by omega
      have i5 : (k : Int) < l5 := by omega
      have i12 : (k : Int) < 12 := by omega
      by_cases hof : O k < fl
      · obtain rfl := S0.out.ad (by omega)
        have c0 := HX.out.cell (S0.out.cell (O k) hof)
        have hv : Hid (alone fl F O M V G k = ((bits BinOp.and IntKind.u8 (bits BinOp.xor IntKind.u8 (F (O k)) (V k)) (M k) == 0) != G k)) := by simp [Hid, alone, byteAt, hof]
        go_wp2
        go_region
        go_wp2
        go_roundw
        case rel => exact ⟨k + 1, by omega, by go_num, (HX.out.setCell (Nat.le_refl _) _).drew, (HR.out.set k _ (by omega) (fun j hj => mark_step _ k _ (by rw [hv.out]; rfl) j)).drew, by simpa [World.setCell] using hz⟩
        case measure => (simp [intOf] <;> omega)
      · have hv : Hid (alone fl F O M V G k = ((bits BinOp.and IntKind.u8 (bits BinOp.xor IntKind.u8 0 (V k)) (M k) == 0) != G k)) := by simp [Hid, alone, byteAt, hof]
        go_wp2
        go_region
        go_wp2
        go_roundw
        case rel => exact ⟨k + 1, by omega, by go_num, (HX.out.setCell (Nat.le_refl _) _).drew, (HR.out.set k _ (by omega) (fun j hj => mark_step _ k _ (by rw [hv.out]; rfl) j)).drew, by simpa [World.setCell] using hz⟩
        case measure => (simp [intOf] <;> omega)
    · obtain rfl : k = 12 := by omega
      go_wp2
      have HM := hide (Marks.start (mr := mr) HX.out HR.out)
      have HWX := HX
      generalize hA : wr.heap.size = A at *
      generalize hN : w.heap.size = N at *
      have hNw : w.heap.size ≤ N := by omega
      clear HX HR hA hN
      generalize hw1 : ((wr.alloc (.cells #[.int .i64 0, .int .i64 0, .int .i64 0, .int .i64 0, .int .i64 0, .int .i64 0, .int .i64 0, .int .i64 0, .int .i64 0, .int .i64 0, .int .i64 0, .int .i64 0] 67)).alloc (.cells #[.bool false, .bool false, .bool false, .bool false, .bool false, .bool false, .bool false, .bool false, .bool false, .bool false, .bool false, .bool false] 66)) = w1 at *
      clear hw1 HWX
      generalize hal : alone fl F O M V G = al at *
      have HAL := hide hal
      clear hal
      go_loopw [29] (fun i w2 => ∃ q : Nat, q ≤ 12 ∧ i = .int .i64 q ∧ Hid (Marks w w2 N A 12 q al mr)) (fun i _ => 12 - (intOf i).toNat)
      case atStart => exact ⟨0, by omega, rfl, HM.out⟩
      case round =>
        clear HM
        obtain ⟨q, hq, rfl, HM⟩ := hrel
        by_cases hql : q < 12
        · have q12 : (q : Int) < 12 := by omega
          have ca : wr.cell? ⟨N, q, none⟩ = some (.bool (al q)) := by rw [HM.out.rAl.cell q (by omega)]; simp [hql]
          have hs := HM.out.xExt.size
          rcases q with _ | p
          · have ch := HM.out.rHd.cell 0 (by omega)
            have fh := HM.out.rHd.free 0 (by omega)
            have co := HM.out.rOk.cell 0 (by omega)
            have fo := HM.out.rOk.free 0 (by omega)
            cases ha : al 0
            · rw [ha] at ca
              have Ha := hide ha
              clear ha
              go_wp2
              go_roundw
              case rel => exact ⟨1, by omega, by go_num, HM.out.head_no hNw hz (by omega) rfl Ha.out⟩
              case measure => (simp [intOf] <;> omega)
            · rw [ha] at ca
              have Ha := hide ha
              clear ha
              go_wp2
              go_roundw
              case rel => exact ⟨1, by omega, by go_num, HM.out.head_yes hNw hz (by omega) rfl Ha.out⟩
              case measure => (simp [intOf] <;> omega)
          · have ch := HM.out.rHd.cell (p + 1) (by omega)
            have fh := HM.out.rHd.free (p + 1) (by omega)
            have co := HM.out.rOk.cell (p + 1) (by omega)
            have fo := HM.out.rOk.free (p + 1) (by omega)
            have hp0 : ((p : Int) + 1 == 0) = false := by rw [beq_eq_false_iff_ne]; omega
            have hp1 : ¬ (p : Int) + 1 - 1 < 0 := by omega
            have i6 : (p : Int) + 1 - 1 < l6 := by omega
            have c6 := HM.out.xExt.cell (S6.out.cell p (by omega))
            cases hm : mr p
            · rw [hm] at c6
              have Hh : Hid (isH mr (p + 1) = true) := by simp [Hid, isH, hm]
              clear hm
              cases ha : al (p + 1)
              · rw [ha] at ca
                have Ha := hide ha
                clear ha
                go_wp2
                go_roundw
                case rel => exact ⟨p + 1 + 1, by omega, by go_num, HM.out.head_no hNw hz (by omega) Hh.out Ha.out⟩
                case measure => (simp [intOf] <;> omega)
              · rw [ha] at ca
                have Ha := hide ha
                clear ha
                go_wp2
                go_roundw
                case rel => exact ⟨p + 1 + 1, by omega, by go_num, HM.out.head_yes hNw hz (by omega) Hh.out Ha.out⟩
                case measure => (simp [intOf] <;> omega)
            · rw [hm] at c6
              have Hm := hide hm
              clear hm
              have hl := hd_le mr p
              have cp : wr.cell? ⟨A, p, none⟩ = some (.int .i64 (hd mr p : Nat)) := by rw [HM.out.rHd.cell p (by omega)]; simp
              have cq := HM.out.rOk.cell (hd mr p) (by omega)
              have fq := HM.out.rOk.free (hd mr p) (by omega)
              have hl12 : (hd mr p : Int) < 12 := by omega
              have Hhd : Hid (∃ x, x = hd mr p) := ⟨_, rfl⟩
              generalize hx : hd mr p = x at *
              have Hx := hide hx
              clear hx Hhd
              cases ha : al (p + 1)
              · rw [ha] at ca
                have Ha := hide ha
                clear ha
                go_wp2
                go_roundw
                case rel => exact ⟨p + 1 + 1, by omega, by go_num, by have := HM.out.tied_no hNw hz (by omega) Hm.out Ha.out; rw [Hx.out] at this; exact this⟩
                case measure => (simp [intOf] <;> omega)
              · rw [ha] at ca
                have Ha := hide ha
                clear ha
                go_wp2
                go_roundw
                case rel => exact ⟨p + 1 + 1, by omega, by go_num, by have := HM.out.tied_yes hNw hz (by omega) Hm.out Ha.out; rw [Hx.out] at this; exact this⟩
                case measure => (simp [intOf] <;> omega)
        · obtain rfl : q = 12 := by omega
          go_wp2
          have HN0 : Hid (∀ j, j < 0 → hd mr j = j → okv al mr 12 j = false) := fun j hj => absurd hj (by omega)
          generalize hw3 : wr = w3 at *
          clear hw3
          go_loopw [30] (fun i w4 => ∃ p : Nat, p ≤ 12 ∧ i = .int .i64 p ∧ w4 = w3 ∧ Hid (∀ j, j < p → hd mr j = j → okv al mr 12 j = false)) (fun i _ => 12 - (intOf i).toNat)
          case atStart => exact ⟨0, by omega, rfl, rfl, HN0⟩
          case round =>
            clear HN0
            obtain ⟨p, hp, rfl, hw4, HNn⟩ := hrel
            obtain rfl : w3 = wr := hw4.symm
            clear hw4
            by_cases hpl : p < 12
            · have p12 : (p : Int) < 12 := by omega
              have ch : w3.cell? ⟨A, p, none⟩ = some (.int .i64 (hd mr p : Nat)) := by rw [HM.out.rHd.cell p (by omega)]; simp [hpl]
              have co := HM.out.rOk.cell p (by omega)
              have c4 := HM.out.xExt.cell (S4.out.cell p (by omega))
              have i4 : (p : Int) < l4 := by omega
              by_cases hh : hd mr p = p
              · rw [hh] at ch
                have Hh := hide hh
                clear hh
                cases ho : okv al mr 12 p
                · rw [ho] at co
                  have Ho := hide ho
                  clear ho
                  go_wp2
                  go_roundw
                  case rel => exact ⟨p + 1, by omega, by go_num, by trivial, fun j hj hhj => by (by_cases e : j = p; (subst e; exact Ho.out); exact HNn.out j (by omega) hhj)⟩
                  case measure => (simp [intOf] <;> omega)
                · rw [ho] at co
                  have Ho := hide ho
                  clear ho
                  go_wp2
                  go_ret2
                  exact ⟨fw p, p + 1, rfl, by rw [HAL.out]; exact model_hit hpl Hh.out Ho.out HNn.out, HM.out.xExt⟩
              · have he : ((hd mr p : Int) == (p : Int)) = false := by rw [beq_eq_false_iff_ne]; omega
                have Hh := hide hh
                clear hh
                go_wp2
                go_roundw
                case rel => exact ⟨p + 1, by omega, by go_num, by trivial, fun j hj hhj => by (by_cases e : j = p; (subst e; exact absurd hhj Hh.out); exact HNn.out j (by omega) hhj)⟩
                case measure => (simp [intOf] <;> omega)
            · obtain rfl : p = 12 := by omega
              go_wp2
              go_ret2
              exact ⟨false, 0, rfl, by rw [HAL.out]; exact model_none (by omega) HNn.out, HM.out.xExt⟩
end Go.Proofs.Qxb6609285aDoor
