import Derived.Test.Qxb6609285aDoorWalkK
import Derived.Test.Qxb6609285aDoorWalkF
namespace Go.Proofs.Qxb6609285aDoor
open Go.RowKit Go.Proofs
set_option linter.unusedVariables false
set_option linter.unusedSimpArgs false

section
variable (rd n l1 l2 l3 l4 l5 l6 k1 k2 k3 k4 k5 k6 : Nat) (a1 a2 a3 a4 a5 a6 : Option Addr) (b1 b2 b3 b4 b5 b6 o1 o2 o3 o4 o5 o6 : Nat) (M V : Nat → Int) (O : Nat → Nat) (fw G mr : Nat → Bool) (w : World)

/-- What the filter holds behind zzBuildFilter. -/
def Built (w w' : World) (rd c : Nat) (fw G mr : Nat → Bool) (O : Nat → Nat) (M V : Nat → Int) : Prop :=
  (rd < 2 ∧ ∃ sa cap mb vb, FB w w' rd c sa cap mb vb fw G mr O M V) ∨
  (2 ≤ rd ∧ Ext w w' ∧ w'.cell? ⟨w.heap.size, 0, none⟩ = some (.slice none 0 0) ∧ w'.cell? ⟨w.heap.size, 1, none⟩ = some (.slice none 0 0))

theorem build_any (hnm : n ≤ 1048576)
    (s1 : Slc w a1 b1 o1 l1 (fun i => .int .u16 (O i))) (s2 : Slc w a2 b2 o2 l2 (fun i => .int .u8 (M i))) (s3 : Slc w a3 b3 o3 l3 (fun i => .int .u8 (V i)))
    (s4 : Slc w a4 b4 o4 l4 (fun i => .bool (fw i))) (s5 : Slc w a5 b5 o5 l5 (fun i => .bool (G i))) (s6 : Slc w a6 b6 o6 l6 (fun i => .bool (mr i)))
    (h1 : n ≤ l1) (h2 : n ≤ l2) (h3 : n ≤ l3) (h4 : n ≤ l4) (h5 : n ≤ l5) (h6 : n ≤ l6) :
    Calls Tryd.prog 8 #[.int .u8 rd, .slice a1 l1 k1, .slice a2 l2 k2, .slice a3 l3 k3, .slice a4 l4 k4, .slice a5 l5 k5, .slice a6 l6 k6, .int .i64 n] w fun e w' =>
      e = .returned (.tuple #[.pointer (some ⟨w.heap.size, 0, none⟩), .bool true]) ∧ Built w w' rd (min n 12) fw G mr O M V := by
  by_cases hrd : rd < 2
  · refine (build_gen rd n l1 l2 l3 l4 l5 l6 k1 k2 k3 k4 k5 k6 a1 a2 a3 a4 a5 a6 b1 b2 b3 b4 b5 b6 o1 o2 o3 o4 o5 o6 M V O fw G mr w (fun k w' => ∃ sa cap mb vb, FB w w' rd (min k 12) sa cap mb vb fw G mr O M V) hnm s1 s2 s3 s4 s5 s6 h1 h2 h3 h4 h5 h6 ⟨none, 0, fun _ => 0, fun _ => 0, FB.start w rd hrd _ _ _ _ _ _ _ _⟩ (fun k w' ⟨_, _, _, _, h⟩ => h.xExt) ?_).mono (fun e w' ⟨he, hR⟩ => ⟨he, .inl ⟨hrd, hR⟩⟩)
    rintro k wr wc mbk vbk hk ⟨sa, cap, mb, vb, hf0⟩ hx hm hv
    have hf := hf0.ext hx
    by_cases hk12 : k < 12
    · rw [show min k 12 = k by omega] at hf
      have hN := hf.lt
      refine (add_ok w.heap.size rd k cap (w.heap.size + 1) sa _ (.bool (fw k)) (.bool true) (.int .u32 0) (.int .u8 0) (.int .u32 0) (.int .u8 0) (.int .u8 0) (.int .u8 0) (.int .u16 0) (.int .u8 0) (.int .u16 0) (.bool false) (.int .u16 (O k : Nat)) (.slice (some ⟨mbk, 0, none⟩) 1 1) (.slice (some ⟨vbk, 0, none⟩) 1 1) (.bool (G k)) (.bool (mr k)) wc hrd hk12 (by simp [Value.oneCell']) hf.f hf.z (by omega) (by omega) hf.own
            (fun rb w1 hc => checkG_good rb 0 rd (fw k) (G k) (mr k) (O k) mbk vbk w1 hrd hc)).mono ?_
      rintro e w' ⟨rfl, g, cap', ho, hg, hlt2⟩
      exact ⟨.inl ⟨hrd, hk12, rfl⟩, some ⟨g, 0, none⟩, cap', _, _, by rw [show min (k + 1) 12 = k + 1 by omega]; exact hf.add hrd hm hv ho hg⟩
    · rw [show min k 12 = 12 by omega] at hf
      refine (add_full w.heap.size rd cap sa (.bool (fw k)) (.bool true) (.int .u32 0) (.int .u8 0) (.int .u32 0) (.int .u8 0) (.int .u8 0) (.int .u8 0) (.int .u16 0) (.int .u8 0) (.int .u16 0) (.bool false) (.int .u16 (O k : Nat)) (.slice (some ⟨mbk, 0, none⟩) 1 1) (.slice (some ⟨vbk, 0, none⟩) 1 1) (.bool (G k)) (.bool (mr k)) wc hrd hf.f
            (fun rb w1 hc => checkG_good rb 0 rd (fw k) (G k) (mr k) (O k) mbk vbk w1 hrd hc)).mono ?_
      rintro e w' ⟨⟨pe, rfl⟩, hx3⟩
      exact ⟨.inr ⟨fun h => hk12 h.2, pe, rfl⟩, sa, cap, mb, vb, by rw [show min (k + 1) 12 = 12 by omega]; exact hf.ext hx3⟩
  · refine (build_gen rd n l1 l2 l3 l4 l5 l6 k1 k2 k3 k4 k5 k6 a1 a2 a3 a4 a5 a6 b1 b2 b3 b4 b5 b6 o1 o2 o3 o4 o5 o6 M V O fw G mr w (fun _ w' => Ext w w' ∧ w'.cell? ⟨w.heap.size, 0, none⟩ = some (.slice none 0 0) ∧ w'.cell? ⟨w.heap.size, 1, none⟩ = some (.slice none 0 0)) hnm s1 s2 s3 s4 s5 s6 h1 h2 h3 h4 h5 h6 ⟨(Ext.refl w).alloc _, by simp [go_sem], by simp [go_sem]⟩ (fun k w' h => h.1) ?_).mono (fun e w' ⟨he, hR⟩ => ⟨he, .inr ⟨by omega, hR⟩⟩)
    rintro k wr wc mbk vbk hk ⟨hx0, hf0, hf1⟩ hx hm hv
    refine (add_bad w.heap.size rd (.bool (fw k)) (.bool true) (.int .u32 0) (.int .u8 0) (.int .u32 0) (.int .u8 0) (.int .u8 0) (.int .u8 0) (.int .u16 0) (.int .u8 0) (.int .u16 0) (.bool false) (.int .u16 (O k : Nat)) (.slice (some ⟨mbk, 0, none⟩) 1 1) (.slice (some ⟨vbk, 0, none⟩) 1 1) (.bool (G k)) (.bool (mr k)) wc
            (fun rb w1 hc => checkG_bad rb 0 rd (fw k) (G k) (mr k) (O k) mbk vbk w1 (by omega) hc)).mono ?_
    rintro e w' ⟨⟨pe, rfl⟩, hx3⟩
    exact ⟨.inr ⟨fun h => hrd h.1, pe, rfl⟩, (hx0.trans hx).trans hx3, (hx.trans hx3).cell hf0, (hx.trans hx3).cell hf1⟩
end
end Go.Proofs.Qxb6609285aDoor
