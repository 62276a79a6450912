/- A region that draws its order: the operations that only read are taken first ALL AT ONCE, in the order of the text (the kit's quiet walk, 'wpQuiet', at the class S), what is left goes by 'wpAnyH' (Derived/OrdersHeld.lean). -/
import Derived.OrdersHeld
import Derived.RegionTactic
import Derived.Deep.Quiet
import Derived.Deep.RegionHeld
namespace Go.Proofs.Qxb6609285aDoor
open Go

/-- An operation that yields a value, or halts: no call, no store. -/
def valued (o : Oper) : Bool :=
  match o.op with
  | .move _ | .assign _ | .build _ _ | .load _ _ | .binOp _ _ _ _ _ | .unOp _ _ _ | .convert _ _ _ | .fieldAddr _ _ _ | .indexAddr _ _ _ => true
  | _ => false

theorem valued_of_v {P : Program} {s : Sem Value} {w w' : World} {n : Next} (h : (do pure (Next.value (← s)) : Sem Next).run P w = .ok n w') : ∃ u, n = .value u := by
  simp only [Sem.run_bind, Sem.run_pure] at h
  cases hs : s.run P w with
  | ok u w2 => rw [hs] at h; simp only [Result.andThen_ok] at h; injection h with h1 h2; exact ⟨u, h1.symm⟩
  | halt x w2 => rw [hs] at h; simp [Result.andThen] at h

theorem valued_spec {P : Program} {ρ : Operand → Value} {o : Oper} (hv : valued o = true) {w w' : World} {n : Next} (h : (execOp ρ o).run P w = .ok n w') : ∃ u, n = .value u := by
  obtain ⟨dst, op, type, pos, after, guard⟩ := o
  cases op <;> simp only [valued, Bool.false_eq_true] at hv
  all_goals first
    | exact valued_of_v h
    | (simp only [execOp, Sem.run_pure] at h; injection h with h1 h2; exact ⟨_, h1.symm⟩)

section
variable {P : Program} {ops : Array Oper} {Q : Exit → Act → World → Prop} {md : Region.Mode} {S : World → Prop}

/-- These may be taken first, one behind the other. -/
def takesB (md : Region.Mode) (ops : Array Oper) : Array Bool → List Nat → Bool
  | _, [] => true
  | listed, i :: is => Region.free md ops listed i && (Region.ready md ops listed).contains i && (match ops[i]? with | some o => valued o | none => false) && takesB md ops (listed.setIfInBounds i true) is
def setAll (listed : Array Bool) : List Nat → Array Bool
  | [] => listed
  | i :: is => setAll (listed.setIfInBounds i true) is
def opsAt (ops : Array Oper) : List Nat → List Oper
  | [] => []
  | i :: is => (match ops[i]? with | some o => [o] | none => []) ++ opsAt ops is

theorem wpAnyH_takes (hs : Region.noSelect ops = true) (hQ : ∀ c a t v w, Q (.panic c) (a.put (some t) v) w → Q (.panic c) a w) {w : World} (hS : S w) {fuel : Nat} : ∀ (is : List Nat) (listed : Array Bool) (a : Act), takesB md ops listed is = true →
    wpQuiet P ops S (fun a' => wpAnyH P md ops Q S fuel (setAll listed is) a' w) (opsAt ops is) a → wpAnyH P md ops Q S (fuel + is.length) listed a w
  | [], listed, a, _, h => h
  | i :: is, listed, a, hB, h => by
    simp only [takesB, Bool.and_eq_true] at hB
    obtain ⟨⟨⟨hf, hr⟩, hv⟩, hB'⟩ := hB
    cases ho : ops[i]? with
    | none => rw [ho] at hv; cases hv
    | some o =>
      rw [ho] at hv
      simp only [opsAt, ho, List.cons_append, List.nil_append, wpQuiet] at h
      have go : ∀ v, YieldsIf P ops S o v a → wpQuiet P ops S (fun a' => wpAnyH P md ops Q S fuel (setAll (listed.setIfInBounds i true) is) a' w) (opsAt ops is) (a.put o.dst v) → wpAnyH P md ops Q S (fuel + (i :: is).length) listed a w := fun v hy hq =>
        wpAnyH_take ho hs hf hr (fun c a w => by cases o.dst with | none => exact id | some t => exact hQ c a t _ w) hy hS (wpAnyH_takes hs hQ hS is _ _ hB' hq)
      by_cases hw : Region.wanted o (yielded ops a.tmps) = true
      · rw [if_pos hw] at h
        obtain ⟨v, h1, h2⟩ := h
        refine go v (.inl ⟨hw, fun w1 hw1 => ?_⟩) h2
        have h3 := h1 w1 hw1
        unfold Oper.quietAt at h3
        cases hr1 : (execOp a.eval o).run P w1 with
        | halt x w2 => rw [hr1] at h3; exact h3.elim
        | ok n w2 =>
          obtain ⟨u, rfl⟩ := valued_spec hv hr1
          rw [hr1] at h3
          obtain ⟨e1, e2⟩ := h3
          rw [e1, e2]
      · rw [if_neg hw] at h
        exact go undef (.inr ⟨by simpa using hw, rfl⟩) h

/-- One step of the quiet walk, its value named. -/
theorem wpQuiet_val {C : World → Prop} {Q' : Act → Prop} {a : Act} {o : Oper} {rest : List Oper} (v : Value) (hw : Region.wanted o (yielded ops a.tmps) = true) (h : ∀ w, C w → (execOp a.eval o).run P w = .ok (.value v) w)
    (k : wpQuiet P ops C Q' rest (a.put o.dst v)) : wpQuiet P ops C Q' (o :: rest) a := by
  refine wpQuiet_step fun K hK => ?_
  rw [if_pos hw]
  refine ⟨v, fun w1 h1 => ?_, hK _ k⟩
  unfold Oper.quietAt
  rw [h w1 h1]
  exact ⟨rfl, rfl⟩

/-- Whichever comes up, the operation brought in by a name. -/
theorem wpAnyH_each (rs : List Nat) {fuel : Nat} {listed : Array Bool} {a : Act} {w : World} (hr : Region.ready md ops listed = rs) (hne : rs ≠ [])
    (h : ∀ i ∈ rs, ∀ o, ops[i]? = some o → ∀ K' : Act → World → Prop, (∀ a w, (S w ∧ wpAnyH P md ops Q S fuel (listed.setIfInBounds i true) a w) → K' a w) → if Region.wanted o (yielded ops a.tmps) = true then Oper.wp P o a w K' Q else K' (a.put o.dst undef) w) :
    wpAnyH P md ops Q S (fuel + 1) listed a w := by
  refine wpAnyH_all hr hne fun i hi => ?_
  obtain ⟨_, o, ho, _⟩ := mem_ready.1 (by rw [hr]; exact hi : i ∈ Region.ready md ops listed)
  exact wpOp_step ho (h i hi o ho)
end
end Go.Proofs.Qxb6609285aDoor
