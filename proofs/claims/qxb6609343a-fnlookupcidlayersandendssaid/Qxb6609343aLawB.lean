/- The law FnLookupCIDLayersAndEnds. -/
import Derived.Test.Qxb6609343aWalkE
namespace Go.Proofs.Qxb6609343a
open Go.RowKit Go.Proofs
set_option linter.unusedVariables false
set_option linter.unusedSimpArgs false

set_option maxRecDepth 10000 in
set_option maxHeartbeats 4000000 in
theorem lawB_any (n n2 c0 c1 b o b' o' code : Nat) (a a' : Option Addr) (lo hi cid lo2 hi2 cid2 : Nat → Nat) (w : World) (hcode : code < 4294967296) (hlo : ∀ i, lo i < 4294967296) (hhi : ∀ i, hi i < 4294967296) (hcid : ∀ i, cid i < 4294967296) (hcid2 : ∀ i, cid2 i < 4294967296)
    (s : Ms w a b o n lo hi cid) (s2 : Ms w a' b' o' n2 lo2 hi2 cid2) :
    Calls Try.prog 5 #[.slice a n c0, .slice a' n2 c1, .int .u32 code] w fun e w' => e = .returned (.bool true) ∧ Ext w w' := by
  have S := hide s
  have S2 := hide s2
  have HCid := hide hcid
  have HCid2 := hide hcid2
  have HLo := hide hlo
  have HHi := hide hhi
  clear s s2 hcid hcid2 hlo hhi
  go_enter Try.func5, Try.ntmps5
  go_wp2_with fail
  refine (bytesB_any n n2 c0 c1 a a' code w).mono ?_
  rintro e w0 ⟨bb, rfl, rfl⟩
  cases bb
  · go_wp2_with fail
    go_ret
    exact ⟨rfl, Ext.refl _⟩
  by_cases hn : n ≤ 32768
  case neg =>
    have hni : (32768 : Int) < n := by omega
    go_wp2_with fail
    go_ret
    exact ⟨rfl, Ext.refl _⟩
  have hni : ¬ (32768 : Int) < n := by omega
  by_cases hn2 : n2 ≤ 32768
  case neg =>
    have hni2 : (32768 : Int) < n2 := by omega
    go_wp2_with fail
    go_ret
    exact ⟨rfl, Ext.refl _⟩
  have hni2 : ¬ (32768 : Int) < n2 := by omega
  go_wp2_with fail
  refine (ordered_any n c0 b o a lo hi cid w0 hn S.out).mono ?_
  rintro e w1 ⟨bb, rfl, hx1, ho⟩
  cases bb
  · have HX1 := hide hx1
    clear hx1
    go_wp2_with fail
    go_ret
    exact ⟨rfl, HX1.out⟩
  have HO := hide (ho rfl)
  have HX1 := hide hx1
  clear ho hx1
  go_wp2_with fail
  refine (ordered_any n2 c1 b' o' a' lo2 hi2 cid2 w1 hn2 (S2.out.ext HX1.out)).mono ?_
  rintro e w2 ⟨bb, rfl, hx2, ho⟩
  have HX2 := hide (HX1.out.trans hx2)
  clear hx2
  cases bb
  · go_wp2_with fail
    go_ret
    exact ⟨rfl, HX2.out⟩
  have HO2 := hide (ho rfl)
  clear ho
  go_wp2_with fail
  refine (split_any n c0 b o a lo hi cid w2 hn (S.out.ext HX2.out)).mono ?_
  rintro e w3 ⟨rfl, u0, u1, u2, hx3⟩
  have HX3 := hide (HX2.out.trans hx3)
  have U := hide (And.intro u0 (And.intro u1 u2))
  clear hx3 u0 u1 u2
  go_wp2_with fail
  refine (split_any n2 c1 b' o' a' lo2 hi2 cid2 w3 hn2 (S2.out.ext HX3.out)).mono ?_
  rintro e w4 ⟨rfl, u0, u1, u2, hx4⟩
  have HX4 := hide (HX3.out.trans hx4)
  have U4 := hide (And.intro (U.out.1.ext hx4) (And.intro (U.out.2.1.ext hx4) (U.out.2.2.ext hx4)))
  have V := hide (And.intro u0 (And.intro u1 u2))
  clear hx4 u0 u1 u2 U
  go_wp2_with fail
  refine (new_any n w2.heap.size (w2.heap.size + 1) (w2.heap.size + 2) lo hi cid none w4 hn U4.out.1 U4.out.2.1 U4.out.2.2).mono ?_
  rintro e w5 ⟨rfl, hx5, hm⟩
  have HX5 := hide (HX4.out.trans hx5)
  have U5 := hide (And.intro (U4.out.1.ext hx5) (And.intro (U4.out.2.1.ext hx5) (U4.out.2.2.ext hx5)))
  have V5 := hide (And.intro (V.out.1.ext hx5) (And.intro (V.out.2.1.ext hx5) (V.out.2.2.ext hx5)))
  have HA5 := hide hm
  clear hx5 hm V U4
  go_wp2_with fail
  refine (new_any n2 w3.heap.size (w3.heap.size + 1) (w3.heap.size + 2) lo2 hi2 cid2 none w5 hn2 V5.out.1 V5.out.2.1 V5.out.2.2).mono ?_
  rintro e w6 ⟨rfl, hx6, hm⟩
  have HX6 := hide (HX5.out.trans hx6)
  have U6 := hide (And.intro (U5.out.1.ext hx6) (And.intro (U5.out.2.1.ext hx6) (U5.out.2.2.ext hx6)))
  have HA6 := hide (HA5.out.ext hx6)
  have HU6 := hide hm
  clear hx6 hm V5 U5 HA5
  go_wp2_with fail
  refine (new_any n w2.heap.size (w2.heap.size + 1) (w2.heap.size + 2) lo hi cid _ w6 hn U6.out.1 U6.out.2.1 U6.out.2.2).mono ?_
  rintro e w7 ⟨rfl, hx7, hm⟩
  have HX7 := hide (HX6.out.trans hx7)
  have HA7 := hide (HA6.out.ext hx7)
  have HU7 := hide (HU6.out.ext hx7)
  have HB7 := hide hm
  clear hx7 hm U6 HA6 HU6
  go_wp2_with fail
  refine (zz_look (look_base _ _ _ n _ _ _ n2 code lo hi cid lo2 hi2 cid2 w7 hn hn2 hcode HCid.out HCid2.out HO.out HO2.out HB7.out HU7.out)).mono ?_
  rintro e w8 ⟨g, gok, rfl, hl, hx8⟩
  have HG := hide hl
  have HX8 := hide (HX7.out.trans hx8)
  have HA8 := hide (HA7.out.ext hx8)
  have HU8 := hide (HU7.out.ext hx8)
  have HB8 := hide (HB7.out.ext hx8)
  clear hl hx8 HA7 HU7 HB7
  go_wp2_with fail
  refine (zz_look (look_nil _ _ _ n code lo hi cid w8 hn hcode HCid.out HO.out HA8.out)).mono ?_
  rintro e w9 ⟨v1, ok1, rfl, hl, hx9⟩
  have HG1 := hide hl
  have HX9 := hide (HX8.out.trans hx9)
  have HU9 := hide (HU8.out.ext hx9)
  have HB9 := hide (HB8.out.ext hx9)
  clear hl hx9 HA8 HU8 HB8
  go_wp2_with fail
  refine (zz_look (look_nil _ _ _ n2 code lo2 hi2 cid2 w9 hn2 hcode HCid2.out HO2.out HU9.out)).mono ?_
  rintro e w10 ⟨v2, ok2, rfl, hl, hx10⟩
  have HG2 := hide hl
  have HX10 := hide (HX9.out.trans hx10)
  have HU10 := hide (HU9.out.ext hx10)
  have HB10 := hide (HB9.out.ext hx10)
  clear hl hx10 HU9 HB9
  have HLK : Hid (∀ wr, Ext w10 wr → ∀ i, i < n → ∀ c, lo i ≤ c → c ≤ hi i → Calls Try.prog 12 #[.pointer (some ⟨w6.heap.size, 0, none⟩), .int .u32 c] wr fun e w' => e = .returned (.tuple #[.int .u32 (((cid i + (c - lo i)) % 4294967296 : Nat) : Int), .bool true]) ∧ Ext wr w') := fun wr hx i hi' c h1 h2 => by
    have hh := HHi.out i
    refine (zz_look (look_base _ _ _ n _ _ _ n2 c lo hi cid lo2 hi2 cid2 wr hn hn2 (by omega) HCid.out HCid2.out HO.out HO2.out (HB10.out.ext hx) (HU10.out.ext hx))).mono ?_
    rintro e w' ⟨v, ok, rfl, hl, hx'⟩
    have hi2 : LookIs n lo hi cid c ((cid i + (c - lo i)) % 4294967296) true := .inl ⟨i, hi', h1, h2, rfl, rfl⟩
    rcases hl with ⟨q1, q2⟩ | ⟨q1, _⟩
    · obtain ⟨rfl, _⟩ := q1.unique HO.out hi2
      subst q2
      exact ⟨rfl, hx'⟩
    · have := (q1.unique HO.out hi2).2; cases this
  have HREST : Hid (ok1 = true ∧ gok = true ∧ g = v1 ∨ ok1 = false ∧ gok = ok2 ∧ g = v2) := by
    rcases HG.out with ⟨q1, q2⟩ | ⟨q1, q2⟩
    · obtain ⟨rfl, rfl⟩ := q1.unique HO.out HG1.out
      exact .inl ⟨rfl, q2, rfl⟩
    · obtain ⟨rfl, rfl⟩ := q1.unique HO.out HG1.out
      obtain ⟨rfl, rfl⟩ := q2.unique HO2.out HG2.out
      exact .inr ⟨rfl, rfl, rfl⟩
  clear HB10 HU10 HG HG1 HG2
  have fin : True := trivial
  rcases HREST.out with ⟨rfl, rfl, rfl⟩ | ⟨rfl, rfl, rfl⟩
  all_goals
    have e1 : ((g : Int) != (g : Int)) = false := by rw [bne_self_eq_false]
    have e2 : ∀ x : Bool, (x != x) = false := by decide
    go_wp2_with fail
    go_loopw [22] (fun x wr => ∃ k : Nat, k ≤ n ∧ x = .int .i64 k ∧ Hid (Ext w10 wr)) (fun x _ => n - (intOf x).toNat)
    case atStart => exact ⟨0, by omega, rfl, Ext.refl _⟩
    case round =>
      obtain ⟨k, hk, rfl, HXr⟩ := hrel
      by_cases hlt : k < n
      · have hlti : (k : Int) < n := by omega
        have had := S.out.ad (by omega)
        subst had
        have HY := hide (HX10.out.trans HXr.out)
        have q0 := HY.out.cell (S.out.lo k hlt)
        have hle := (HO.out k hlt).1
        have hck := HCid.out k
        have hhk := HHi.out k
        have hc1 := HLK.out wr HXr.out k hlt (lo k) (Nat.le_refl _) hle
        rw [show (cid k + (lo k - lo k)) % 4294967296 = cid k by rw [Nat.sub_self, Nat.add_zero]; exact Nat.mod_eq_of_lt hck] at hc1
        have HC1 := hide hc1
        clear hc1
        have HC2 : Hid (∀ wr', Ext wr wr' → Calls Try.prog 12 #[.pointer (some ⟨w6.heap.size, 0, none⟩), .int .u32 (hi k)] wr' fun e w' => e = .returned (.tuple #[.int .u32 (((cid k + (hi k - lo k)) % 4294967296 : Nat) : Int), .bool true]) ∧ Ext wr' w') := fun wr' hx => HLK.out wr' (HXr.out.trans hx) k hlt (hi k) hle (Nat.le_refl _)
        have HCells : Hid (∀ wr', Ext wr wr' → wr'.cell? ⟨b, o + k * 3, none⟩ = some (.int .u32 (lo k)) ∧ wr'.cell? ⟨b, o + k * 3 + 1, none⟩ = some (.int .u32 (hi k)) ∧ wr'.cell? ⟨b, o + k * 3 + 2, none⟩ = some (.int .u32 (cid k))) := fun wr' hx =>
          ⟨hx.cell (HY.out.cell (S.out.lo k hlt)), hx.cell (HY.out.cell (S.out.hi k hlt)), hx.cell (HY.out.cell (S.out.cid k hlt))⟩
        obtain ⟨v, hv⟩ : ∃ v, v = (cid k + (hi k - lo k)) % 4294967296 := ⟨_, rfl⟩
        rw [← hv] at HC2
        generalize lo k = lk at *
        generalize hi k = hk' at *
        generalize cid k = ck at *
        have v1 : ((ck : Int) + ((hk' : Int) - (lk : Int))) % 4294967296 = (v : Int) := by omega
        have v2 : ((ck : Int) + ((hk' - lk : Nat) : Int)) % 4294967296 = (v : Int) := by omega
        have n1 : ((ck : Int) != (ck : Int)) = false := by rw [bne_self_eq_false]
        have n2 : ((v : Int) != (v : Int)) = false := by rw [bne_self_eq_false]
        clear hv
        go_wp2_with fail
        refine HC1.out.mono ?_
        rintro e w11 ⟨rfl, hx11⟩
        obtain ⟨q0, q1, q2⟩ := HCells.out w11 hx11
        have HX11 := hide hx11
        clear hx11
        go_wp2_with fail
        refine (HC2.out w11 HX11.out).mono ?_
        rintro e w12 ⟨rfl, hx12⟩
        have HX12 := hide (HX11.out.trans hx12)
        clear hx12 q0 q1 q2
        obtain ⟨q0, q1, q2⟩ := HCells.out w12 HX12.out
        go_wp2_with fail
        go_quiet (fail)
        go_wp2_with fail
        go_roundw
        case rel => exact ⟨k + 1, by omega, by go_num, (HXr.out.trans HX12.out).drewN _⟩
        case measure => (simp [intOf] <;> omega)
      · go_wp2_with fail
        go_ret
        exact ⟨rfl, HX10.out.trans HXr.out⟩
end Go.Proofs.Qxb6609343a
