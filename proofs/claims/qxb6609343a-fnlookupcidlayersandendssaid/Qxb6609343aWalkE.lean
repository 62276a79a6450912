/- cmap.lookupCID. -/
import Derived.Test.Qxb6609343aWalkD
namespace Go.Proofs.Qxb6609343a
open Go.RowKit Go.Proofs
set_option linter.unusedVariables false
set_option linter.unusedSimpArgs false

set_option maxRecDepth 10000 in
set_option maxHeartbeats 2000000 in
theorem look_nil (mb lb sb n code : Nat) (lo hi cid : Nat → Nat) (w : World) (hn : n ≤ 32768) (hcode : code < 4294967296) (hcid : ∀ i, cid i < 4294967296) (ho : Ord n lo hi) (hm : MapAt w mb lb sb n lo hi cid none) :
    Calls Try.prog 16 #[.pointer (some ⟨mb, 0, none⟩), .int .u32 code] w fun e w' => ∃ (v : Nat) (ok : Bool), e = .returned (.tuple #[.int .u32 v, .bool ok]) ∧ LookIs n lo hi cid code v ok ∧ Ext w w' := by
  have HM := hide hm
  have HO := hide ho
  have HCid := hide hcid
  clear hm ho hcid
  go_enter Try.func16, Try.ntmps16
  go_wp2_with fail
  refine (find_any mb lb sb n code lo hi cid none w hn HO.out HM.out).mono ?_
  rintro e w1 ⟨v, rfl, hf, hx⟩
  rcases hf with ⟨i, hi', h1, h2, rfl⟩ | ⟨h0, rfl⟩
  · have HL : Hid (LookIs n lo hi cid code ((cid i + (code - lo i)) % 4294967296) true) := .inl ⟨i, hi', h1, h2, rfl, rfl⟩
    have hc := HCid.out i
    have HX := hide hx
    clear hx
    generalize lo i = lk at *
    generalize hi i = hk' at *
    generalize cid i = ck at *
    go_wp2_with fail
    go_ret2
    refine ⟨_, true, ?_, HL.out, HX.out.alloc _⟩
    rw [show (((ck + (code - lk)) % 4294967296 : Nat) : Int) = (((ck : Int) + (code : Int)) % 4294967296 - (lk : Int)) % 4294967296 by omega]
    rfl
  · have HL : Hid (LookIs n lo hi cid code 0 false) := .inr ⟨h0, rfl, rfl⟩
    have HX := hide hx
    have c3 := hx.cell HM.out.base
    have hlt : mb < w1.heap.size := World.block_lt_of_cell? _ _ c3
    have hne : ¬ mb = w1.heap.size := by omega
    clear hx h0
    go_wp2_with fail
    go_ret2
    exact ⟨0, false, rfl, HL.out, HX.out.alloc _⟩

/-- What a lookup over a base answers: the own ranges' answer, or the base's where they hold none. -/
def Look2 (n : Nat) (lo hi cid : Nat → Nat) (n2 : Nat) (lo2 hi2 cid2 : Nat → Nat) (code v : Nat) (ok : Bool) : Prop :=
  (LookIs n lo hi cid code v true ∧ ok = true) ∨ (LookIs n lo hi cid code 0 false ∧ LookIs n2 lo2 hi2 cid2 code v ok)

set_option maxRecDepth 10000 in
set_option maxHeartbeats 2000000 in
theorem look_base (mb lb sb n mb2 lb2 sb2 n2 code : Nat) (lo hi cid lo2 hi2 cid2 : Nat → Nat) (w : World) (hn : n ≤ 32768) (hn2 : n2 ≤ 32768) (hcode : code < 4294967296) (hcid : ∀ i, cid i < 4294967296) (hcid2 : ∀ i, cid2 i < 4294967296) (ho : Ord n lo hi) (ho2 : Ord n2 lo2 hi2)
    (hm : MapAt w mb lb sb n lo hi cid (some ⟨mb2, 0, none⟩)) (hm2 : MapAt w mb2 lb2 sb2 n2 lo2 hi2 cid2 none) :
    Calls Try.prog 16 #[.pointer (some ⟨mb, 0, none⟩), .int .u32 code] w fun e w' => ∃ (v : Nat) (ok : Bool), e = .returned (.tuple #[.int .u32 v, .bool ok]) ∧ Look2 n lo hi cid n2 lo2 hi2 cid2 code v ok ∧ Ext w w' := by
  have HM := hide hm
  have HO := hide ho
  have HCid := hide hcid
  have HM2 := hide hm2
  have HO2 := hide ho2
  have HCid2 := hide hcid2
  clear hm ho hcid hm2 ho2 hcid2
  go_enter Try.func16, Try.ntmps16
  go_wp2_with fail
  refine (find_any mb lb sb n code lo hi cid _ w hn HO.out HM.out).mono ?_
  rintro e w1 ⟨v, rfl, hf, hx⟩
  rcases hf with ⟨i, hi', h1, h2, rfl⟩ | ⟨h0, rfl⟩
  · have HL : Hid (Look2 n lo hi cid n2 lo2 hi2 cid2 code ((cid i + (code - lo i)) % 4294967296) true) := .inl ⟨.inl ⟨i, hi', h1, h2, rfl, rfl⟩, rfl⟩
    have hc := HCid.out i
    have HX := hide hx
    clear hx
    generalize lo i = lk at *
    generalize hi i = hk' at *
    generalize cid i = ck at *
    go_wp2_with fail
    go_ret2
    refine ⟨_, true, ?_, HL.out, HX.out.alloc _⟩
    rw [show (((ck + (code - lk)) % 4294967296 : Nat) : Int) = (((ck : Int) + (code : Int)) % 4294967296 - (lk : Int)) % 4294967296 by omega]
    rfl
  · have HL : Hid (LookIs n lo hi cid code 0 false) := .inr ⟨h0, rfl, rfl⟩
    have HX := hide hx
    have c3 := hx.cell HM.out.base
    have hlt : mb < w1.heap.size := World.block_lt_of_cell? _ _ c3
    have hne : ¬ mb = w1.heap.size := by omega
    have HM3 := hide ((HM2.out.ext hx).ext ((Ext.refl w1).alloc (.cells #[.int .u32 0, .int .u32 0, .slice none 0 0, .int .u32 0] 53)))
    clear hx h0
    go_wp2_with fail
    refine (look_nil mb2 lb2 sb2 n2 code lo2 hi2 cid2 _ hn2 hcode HCid2.out HO2.out HM3.out).mono ?_
    rintro e w2 ⟨v, ok, rfl, hl, hx2⟩
    have HX2 := hide ((HX.out.alloc _).trans hx2)
    have HL2 := hide hl
    clear hl hx2
    go_wp2_with fail
    go_ret2
    exact ⟨v, ok, rfl, .inr ⟨HL.out, HL2.out⟩, HX2.out⟩

theorem zz_look {mb code : Nat} {w : World} {R : Nat → Bool → Prop} (h : Calls Try.prog 16 #[.pointer (some ⟨mb, 0, none⟩), .int .u32 code] w fun e w' => ∃ (v : Nat) (ok : Bool), e = .returned (.tuple #[.int .u32 v, .bool ok]) ∧ R v ok ∧ Ext w w') :
    Calls Try.prog 12 #[.pointer (some ⟨mb, 0, none⟩), .int .u32 code] w fun e w' => ∃ (v : Nat) (ok : Bool), e = .returned (.tuple #[.int .u32 v, .bool ok]) ∧ R v ok ∧ Ext w w' := by
  have H := hide h
  clear h
  go_enter Try.func12, Try.ntmps12
  go_wp2_with fail
  refine H.out.mono ?_
  rintro e w2 ⟨v, ok, rfl, hl, hx2⟩
  have HL := hide hl
  have HX := hide hx2
  clear hl hx2 H
  go_wp2_with fail
  go_ret2
  exact ⟨v, ok, rfl, HL.out, HX.out⟩
end Go.Proofs.Qxb6609343a
