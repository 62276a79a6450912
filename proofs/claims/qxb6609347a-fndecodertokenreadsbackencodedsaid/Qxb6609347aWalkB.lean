/- The decoder. -/
import Derived.Test.Qxb6609347aWalkA
namespace Go.Proofs.Qxb6609347a
open Go.RowKit Go.Proofs Go.Shelf
set_option linter.unusedVariables false
set_option linter.unusedSimpArgs false

set_option maxHeartbeats 1000000 in
theorem take_any (db g m c : Nat) (w : World) (hm : 8 ≤ m) (hmc : m ≤ c) (hbig : c ≤ 9223372036854775807) (h0 : w.cell? ⟨db, 0, none⟩ = some (.slice (some ⟨g, 0, none⟩) m c)) (h1 : w.cell? ⟨db, 1, none⟩ = some .nilIface) (hf : w.frozen? ⟨db, 0, none⟩ = false) :
    Calls Try.prog 13 #[.pointer (some ⟨db, 0, none⟩), .int .i64 8] w fun e w' => ∃ ad : Addr, (8 < m → ad = ⟨g, 8, none⟩) ∧ e = .returned (.slice (some ⟨g, 0, none⟩) 8 c) ∧ w' = w.setCell ⟨db, 0, none⟩ (.slice (some ad) (m - 8) (c - 8)) := by
  have hlt := World.block_lt_of_cell? _ _ h0
  have hmi : ¬ (m : Int) < 8 := by omega
  have hci : (8 : Int) ≤ (c : Int) := by omega
  have hmi' : (8 : Int) ≤ (m : Int) := by omega
  have hmci : (m : Int) ≤ (c : Int) := by omega
  go_enter Try.func13, Try.ntmps13
  go_wp2_with fail
  all_goals go_ret
  all_goals first | exact ⟨⟨g, 8, none⟩, fun _ => rfl, rfl, rfl⟩ | exact ⟨⟨g, 0, none⟩, fun h => by omega, rfl, rfl⟩

/-- What Uint64 reads off the eight bytes. -/
theorem read_any (g c v : Nat) (hv : v < 18446744073709551616) (w : World) (hE : Enc w g v) :
    Calls Try.prog 14 #[.agg #[], .slice (some ⟨g, 0, none⟩) 8 c] w fun e w' => e = .returned (.int .u64 v) ∧ Ext w w' := by
  obtain ⟨B0, B1, B2, B3, B4, B5, B6, B7, hB⟩ : ∃ B0 B1 B2 B3 B4 B5 B6 B7, Lib.beBytes 8 v = [B0, B1, B2, B3, B4, B5, B6, B7] := ⟨_, _, _, _, _, _, _, _, rfl⟩
  have hb := Lib.beNat_beBytes 8 v (by omega)
  unfold Enc at hE
  rw [hB] at hE hb
  have h := Any.binary_BE_Uint64 Try.lays42 g 0 8 c B0 B1 B2 B3 B4 B5 B6 B7 w (Nat.le_refl _) (hE 0 _ rfl) (hE 1 _ rfl) (hE 2 _ rfl) (hE 3 _ rfl) (hE 4 _ rfl) (hE 5 _ rfl) (hE 6 _ rfl) (hE 7 _ rfl)
  change Calls Try.prog 14 _ _ _ at h
  rw [hb] at h
  exact h

set_option maxHeartbeats 1000000 in
theorem duint_any (db g m c v : Nat) (hv : v < 18446744073709551616) (w : World) (hm : 8 ≤ m) (hmc : m ≤ c) (hbig : c ≤ 9223372036854775807) (h0 : w.cell? ⟨db, 0, none⟩ = some (.slice (some ⟨g, 0, none⟩) m c)) (h1 : w.cell? ⟨db, 1, none⟩ = some .nilIface) (hf : w.frozen? ⟨db, 0, none⟩ = false) (hE : Enc w g v) (hg : ¬ db = g) :
    Calls Try.prog 12 #[.pointer (some ⟨db, 0, none⟩)] w fun e w' => ∃ ad : Addr, (8 < m → ad = ⟨g, 8, none⟩) ∧ e = .returned (.int .u64 v) ∧ Ext (w.setCell ⟨db, 0, none⟩ (.slice (some ad) (m - 8) (c - 8))) w' := by
  go_enter Try.func12, Try.ntmps12
  go_wp2_with fail
  refine (take_any db g m c w hm hmc hbig h0 h1 hf).mono ?_
  rintro e w1 ⟨ad, had, rfl, rfl⟩
  have HE : Hid (Enc (w.setCell ⟨db, 0, none⟩ (.slice (some ad) (m - 8) (c - 8))) g v) := fun i u hu => by
    rw [cell_other (a := ⟨db, 0, none⟩) (b := ⟨g, i, none⟩) (by intro q; injection q with q1 _ _; exact hg q1)]
    exact hE i u hu
  have HA := hide had
  clear had hE
  generalize hw2 : w.setCell ⟨db, 0, none⟩ (.slice (some ad) (m - 8) (c - 8)) = w2 at *
  have HW := hide hw2
  clear hw2
  go_wp2_with fail
  refine (read_any g c v hv _ HE.out).mono ?_
  rintro e w3 ⟨rfl, hx⟩
  have HX := hide hx
  clear hx
  go_wp2_with fail
  go_ret
  exact ⟨ad, HA.out, rfl, by rw [HW.out]; exact HX.out⟩
end Go.Proofs.Qxb6609347a
