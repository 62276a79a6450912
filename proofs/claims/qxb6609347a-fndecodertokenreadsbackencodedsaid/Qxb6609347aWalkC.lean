/- decoder.token. -/
import Derived.Test.Qxb6609347aWalkB
namespace Go.Proofs.Qxb6609347a
open Go.RowKit Go.Proofs Go.Shelf
set_option linter.unusedVariables false
set_option linter.unusedSimpArgs false

theorem errnew_any (s : ByteArray) (w : World) : Calls Try.prog 9 #[.string s] w fun e w' => ∃ T, e = .returned (.iface T (.pointer (some ⟨w.heap.size, 0, none⟩))) ∧ Ext w w' := by
  go_enter Try.func9, Try.ntmps9
  go_wp2
  go_ret
  exact ⟨_, rfl, (Ext.refl w).alloc _⟩

/-- The decoder behind token: what is left, and whether it has failed. -/
def TokPost (w : World) (db g m c v : Nat) (w' : World) : Prop :=
  ∃ (ad : Addr) (er : Value), (8 < m → ad = ⟨g, 8, none⟩) ∧ w'.cell? ⟨db, 0, none⟩ = some (.slice (some ad) (m - 8) (c - 8)) ∧ w'.cell? ⟨db, 1, none⟩ = some er ∧ ((v = 0 ∧ ∃ T p, er = .iface T (.pointer p)) ∨ (v ≠ 0 ∧ er = .nilIface)) ∧ Below db w w'

set_option maxHeartbeats 1000000 in
theorem token_any (db g m c v : Nat) (hv : v < 18446744073709551616) (w : World) (hm : 8 ≤ m) (hmc : m ≤ c) (hbig : c ≤ 9223372036854775807) (h0 : w.cell? ⟨db, 0, none⟩ = some (.slice (some ⟨g, 0, none⟩) m c)) (h1 : w.cell? ⟨db, 1, none⟩ = some .nilIface) (hf : w.frozen? ⟨db, 0, none⟩ = false) (hf1 : w.frozen? ⟨db, 1, none⟩ = false) (hE : Enc w g v) (hg : ¬ db = g) :
    Calls Try.prog 10 #[.pointer (some ⟨db, 0, none⟩)] w fun e w' => e = .returned (.int .u64 v) ∧ TokPost w db g m c v w' := by
  have hlt := World.block_lt_of_cell? _ _ h0
  have hm0 : ((m : Int) == 0) = false := by rw [beq_eq_false_iff_ne]; omega
  have HD := hide (duint_any db g m c v hv w hm hmc hbig h0 h1 hf hE hg)
  clear hE
  go_enter Try.func10, Try.ntmps10
  go_wp2_with fail
  refine HD.out.mono ?_
  rintro e w1 ⟨ad, had, rfl, hx⟩
  have k0 : w1.cell? ⟨db, 0, none⟩ = some (.slice (some ad) (m - 8) (c - 8)) := hx.cell (cell_same h0)
  have k1 : w1.cell? ⟨db, 1, none⟩ = some .nilIface := hx.cell (by rw [cell_other (a := ⟨db, 0, none⟩) (b := ⟨db, 1, none⟩) (by simp)]; exact h1)
  have f1 : w1.frozen? ⟨db, 1, none⟩ = false := hx.frozen (v := .nilIface) (by rw [cell_other (a := ⟨db, 0, none⟩) (b := ⟨db, 1, none⟩) (by simp)]; exact h1) (by rw [World.frozen?_setCell]; exact hf1)
  have HB : Hid (Below db w w1) := (Below.setCell (Below.refl db w) (Nat.le_refl _) _).trans (Below.mono hx (by simp [World.setCell]; exact Nat.le_of_lt hlt))
  have HA := hide had
  have K0 := hide k0
  clear had hx HD h0 h1 hf hf1
  by_cases h : v = 0
  · subst h
    go_wp2_with fail
    refine (errnew_any _ _).mono ?_
    rintro e w2 ⟨T, rfl, hx2⟩
    have K0' := hide (hx2.cell K0.out)
    have k1' := hx2.cell k1
    have f1' := hx2.frozen k1 f1
    have hlt1 := World.block_lt_of_cell? _ _ k1
    have HB2 : Hid (Below db w w2) := HB.out.trans (Below.mono hx2 (Nat.le_of_lt hlt1))
    clear hx2 k1 f1 K0 HB
    go_wp2_with fail
    go_ret
    refine ⟨rfl, ad, _, HA.out, ?_, cell_same k1', .inl ⟨rfl, T, _, rfl⟩, Below.setCell HB2.out (Nat.le_refl _) _⟩
    rw [cell_other (a := ⟨db, 1, none⟩) (b := ⟨db, 0, none⟩) (by simp)]
    exact K0'.out
  · have hne : ((v : Int) == 0) = false := by rw [beq_eq_false_iff_ne]; omega
    go_wp2_with fail
    go_ret
    exact ⟨rfl, ad, .nilIface, HA.out, K0.out, k1, .inr ⟨h, rfl⟩, HB.out⟩

theorem Ext.trans' {a b c : World} (h : Ext a b) (k : Below a.heap.size b c) : Ext a c := Below.trans h k

/-- What is left behind the eight bytes. -/
def RestIs (g m c : Nat) (rv : Value) : Prop := ∃ ad : Addr, (8 < m → ad = ⟨g, 8, none⟩) ∧ rv = .slice (some ad) (m - 8) (c - 8)

set_option maxHeartbeats 1000000 in
theorem zztoken_any (g m c v : Nat) (hv : v < 18446744073709551616) (w : World) (hm : 8 ≤ m) (hmc : m ≤ c) (hbig : c ≤ 9223372036854775807) (hE : Enc w g v) (hg : g < w.heap.size) :
    Calls Try.prog 6 #[.slice (some ⟨g, 0, none⟩) m c, .bool false] w fun e w' => ∃ rv, RestIs g m c rv ∧ e = .returned (.tuple #[.int .u64 v, rv, .bool (decide (v = 0))]) ∧ Ext w w' := by
  have HE := hide hE
  clear hE
  go_enter Try.func6, Try.ntmps6
  go_wp2_with fail
  refine (token_any w.heap.size g m c v hv _ hm hmc hbig (by simp [go_sem]) (by simp [go_sem]) (by simp [go_sem]) (by simp [go_sem]) (HE.out.ext ((Ext.refl w).alloc _)) (by omega)).mono ?_
  rintro e w1 ⟨rfl, ad, er, had, k0, k1, her, hb⟩
  have HX : Hid (Ext w w1) := ((Ext.refl w).alloc _).trans' hb
  have HR : Hid (RestIs g m c (.slice (some ad) (m - 8) (c - 8))) := ⟨ad, had, rfl⟩
  clear had hb
  rcases her with ⟨rfl, T, p, rfl⟩ | ⟨hne, rfl⟩
  · go_wp2_with fail
    go_quiet (fail)
    go_wp2_with fail
    go_ret3
    exact ⟨_, HR.out, rfl, HX.out.drewN _⟩
  · have hd : decide (v = 0) = false := by simpa using hne
    go_wp2_with fail
    go_quiet (fail)
    go_wp2_with fail
    go_ret3
    exact ⟨_, HR.out, by rw [hd]; rfl, HX.out.drewN _⟩
end Go.Proofs.Qxb6609347a
