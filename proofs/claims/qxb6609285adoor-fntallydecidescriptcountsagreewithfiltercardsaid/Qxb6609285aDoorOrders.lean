/- A region that draws its order, whose LAST operation (a store that waits for the others) may write a cell that the region's loads have read: the condition S on the world is asked behind every operation BUT THAT ONE. After the kit's 'wpAnyH' (Derived/OrdersHeld.lean). -/
import Derived.OrdersHeld
import Derived.RegionTactic
namespace Go.Proofs.Qxb6609285aDoor
open Go

section
variable {P : Program} {ops : Array Oper} {Q : Exit → Act → World → Prop} {md : Region.Mode} {S : World → Prop} {last : Nat}

/-- While number 'last' has not come up S holds. -/
def Till (S : World → Prop) (last : Nat) (listed : Array Bool) (w : World) : Prop := listed.getD last true = false → S w

/-- Whatever order is picked from here on, and S holds behind every operation that is carried out ahead of number 'last'. -/
def wpAnyL (P : Program) (md : Region.Mode) (ops : Array Oper) (Q : Exit → Act → World → Prop) (S : World → Prop) (last : Nat) : Nat → Array Bool → Act → World → Prop
  | 0, listed, a, w => Region.ready md ops listed = [] ∧ Q .normal a w
  | fuel + 1, listed, a, w =>
    (Region.ready md ops listed = [] → Q .normal a w) ∧
    ∀ i ∈ Region.ready md ops listed, wpOp P ops Q i (fun a' w' => Till S last (listed.setIfInBounds i true) w' ∧ wpAnyL P md ops Q S last fuel (listed.setIfInBounds i true) a' w') a w

theorem wpAny_of_last : ∀ (fuel : Nat) (listed : Array Bool) (a : Act) (w : World), wpAnyL P md ops Q S last fuel listed a w → wpAny P md ops Q fuel listed a w
  | 0, _, _, _, h => h
  | fuel + 1, _, _, _, h => ⟨h.1, fun i hi => wpOp_mono (fun a' w' h' => wpAny_of_last fuel _ a' w' h'.2) (h.2 i hi)⟩

/-- Number 'last' waits for number i. -/
def lastWaits (md : Region.Mode) (ops : Array Oper) (last i : Nat) : Bool :=
  match ops[last]? with
  | none => true
  | some o => o.after.toList.any fun e => Region.binds md e && e.on == i

theorem lastWaits_spec {i : Nat} {listed : Array Bool} (h : lastWaits md ops last i = true) (hr : last ∈ Region.ready md ops listed) (hi : listed.getD i true = false) : False := by
  obtain ⟨_, o, ho, hall⟩ := mem_ready.1 hr
  simp only [lastWaits, ho, List.any_eq_true] at h
  obtain ⟨e, he, hb⟩ := h
  simp only [Bool.and_eq_true, beq_iff_eq] at hb
  have h1 := hall e (by simpa using he) hb.1
  rw [hb.2] at h1
  rcases Nat.lt_or_ge i listed.size with g | g
  · simp [g] at hi h1; rw [hi] at h1; cases h1
  · simp [Array.getElem?_eq_none g] at h1

theorem wpAnyL_first {i : Nat} {oi : Oper} {v : Value} (T : World → Prop) (hST : ∀ w, S w → T w) (hil : i ≠ last)
    (hi : ops[i]? = some oi) (hsel : ∀ (j : Nat) (o : Oper) cs b, ops[j]? = some o → o.op ≠ .select cs b)
    (hQ : ∀ c a w, Q (.panic c) (a.put oi.dst v) w → Q (.panic c) a w) :
    ∀ (fuel : Nat) (listed : Array Bool) (a : Act) (w : World),
      (∀ j oj, ops[j]? = some oj → j ≠ i → listed.getD j true = false → (∀ e ∈ oj.after, Region.binds md e = true → e.on ≠ i) → oi.apart ops oj = true) →
      i ∈ Region.ready md ops listed → YieldsIf P ops T oi v a → T w → Till S last listed w → ((∀ w, T w) ∨ (lastWaits md ops last i = true ∧ listed.getD last true = false)) →
      wpAnyL P md ops Q S last fuel (listed.setIfInBounds i true) (a.put oi.dst v) w → wpAnyL P md ops Q S last (fuel + 1) listed a w := by
  have same : ∀ (listed : Array Bool) (w : World), Till S last listed w → Till S last (listed.setIfInBounds i true) w := fun listed w h h1 => h (by rwa [getD_set_ne true hil] at h1)
  have back : ∀ (listed : Array Bool) (w : World), Till S last (listed.setIfInBounds i true) w → Till S last listed w := fun listed w h h1 => h (by rwa [getD_set_ne true hil])
  intro fuel
  induction fuel with
  | zero =>
    intro listed a w _ hr hy hTw hS _ H
    refine ⟨fun h => (by rw [h] at hr; cases hr), fun j hj => ?_⟩
    by_cases hji : j = i
    · subst hji; exact hy.wpOp hi hTw ⟨same _ _ hS, H⟩
    · have := ready_mono hj hji
      rw [H.1] at this
      cases this
  | succ fuel ih =>
    intro listed a w hfree hr hy hTw hS hT H
    refine ⟨fun h => (by rw [h] at hr; cases hr), fun j hj => ?_⟩
    by_cases hji : j = i
    · subst hji; exact hy.wpOp hi hTw ⟨same _ _ hS, H⟩
    · have h1 := H.2 j (ready_mono hj hji)
      obtain ⟨hjun, oj, hoj, hall⟩ := mem_ready.1 hj
      have hnot : ∀ e ∈ oj.after, Region.binds md e = true → e.on ≠ i := fun e he hb heq => by
        have h1 := hall e he hb
        have h0 := (mem_ready.1 hr).1
        rw [heq] at h1
        rcases Nat.lt_or_ge i listed.size with h' | h'
        · simp [h'] at h0 h1; rw [h0] at h1; cases h1
        · simp [Array.getElem?_eq_none h'] at h1
      have h2 := wpOp_putIf hoj (hfree j oj hoj hji hjun hnot) (fun cs b => hsel i oi cs b hi) (fun cs b => hsel j oj cs b hoj) hQ hy h1
      have hfree' : ∀ k ok, ops[k]? = some ok → k ≠ i → (listed.setIfInBounds j true).getD k true = false →
          (∀ e ∈ ok.after, Region.binds md e = true → e.on ≠ i) → oi.apart ops ok = true := fun k ok hk hki hun hno => by
        refine hfree k ok hk hki ?_ hno
        by_cases hjk : j = k
        · subst hjk; exact hjun
        · rw [getD_set_ne true hjk] at hun; exact hun
      refine wpOp_mono (fun a' w' h3 => ?_) h2
      obtain ⟨hy', hS', H'⟩ := h3
      rw [Array.setIfInBounds_comm _ _ (Ne.symm hji)] at hS' H'
      have hS2 := back _ _ hS'
      refine ⟨hS2, ih (listed.setIfInBounds j true) a' w' hfree' (ready_mono hr (Ne.symm hji)) hy' ?_ hS2 ?_ H'⟩
      · rcases hT with hT | ⟨hl, hu⟩
        · exact hT w'
        · by_cases hjl : j = last
          · subst hjl; exact (lastWaits_spec hl hj (mem_ready.1 hr).1).elim
          · exact hST _ (hS2 (by rw [getD_set_ne true hjl]; exact hu))
      · rcases hT with hT | ⟨hl, hu⟩
        · exact .inl hT
        · by_cases hjl : j = last
          · subst hjl; exact (lastWaits_spec hl hj (mem_ready.1 hr).1).elim
          · exact .inr ⟨hl, by rw [getD_set_ne true hjl]; exact hu⟩

/-- Take number i first: it yields its value in every world that meets S; 'last' waits for it. -/
theorem wpAnyL_take {i : Nat} {oi : Oper} {v : Value} {fuel : Nat} {listed : Array Bool} {a : Act} {w : World} (hi : ops[i]? = some oi)
    (hs : Region.noSelect ops = true) (hf : Region.free md ops listed i = true) (hr : (Region.ready md ops listed).contains i = true)
    (hl : (lastWaits md ops last i && !(listed.getD last true) && !(i == last)) = true)
    (hQ : ∀ c a w, Q (.panic c) (a.put oi.dst v) w → Q (.panic c) a w) (hw : Region.wanted oi (yielded ops a.tmps) = true) (hy : ∀ w, S w → (execOp a.eval oi).run P w = .ok (.value v) w) (hS : S w)
    (h : wpAnyL P md ops Q S last fuel (listed.setIfInBounds i true) (a.put oi.dst v) w) : wpAnyL P md ops Q S last (fuel + 1) listed a w := by
  simp only [Bool.and_eq_true, Bool.not_eq_true', beq_eq_false_iff_ne] at hl
  exact wpAnyL_first S (fun _ h => h) hl.2 hi (Region.noSelect_spec hs) hQ fuel listed a w (Region.free_spec hi hf) (by simpa using hr) (.inl ⟨hw, hy⟩) hS (fun _ => hS) (.inr ⟨hl.1.1, hl.1.2⟩) h

/-- Take number i first: it yields its value in whatever world. -/
theorem wpAnyL_takeAny {i : Nat} {oi : Oper} {v : Value} {fuel : Nat} {listed : Array Bool} {a : Act} {w : World} (hi : ops[i]? = some oi)
    (hs : Region.noSelect ops = true) (hf : Region.free md ops listed i = true) (hr : (Region.ready md ops listed).contains i = true)
    (hl : (!(i == last)) = true)
    (hQ : ∀ c a w, Q (.panic c) (a.put oi.dst v) w → Q (.panic c) a w) (hw : Region.wanted oi (yielded ops a.tmps) = true) (hy : ∀ w, (execOp a.eval oi).run P w = .ok (.value v) w) (hS : S w)
    (h : wpAnyL P md ops Q S last fuel (listed.setIfInBounds i true) (a.put oi.dst v) w) : wpAnyL P md ops Q S last (fuel + 1) listed a w := by
  simp only [Bool.not_eq_true', beq_eq_false_iff_ne] at hl
  exact wpAnyL_first (fun _ => True) (fun _ _ => trivial) hl hi (Region.noSelect_spec hs) hQ fuel listed a w (Region.free_spec hi hf) (by simpa using hr) (.inl ⟨hw, fun w _ => hy w⟩) trivial (fun _ => hS) (.inl fun _ => trivial) h

/-- The two takes with the operation brought in by a name. -/
theorem wpAnyL_takeS (i : Nat) {fuel : Nat} {listed : Array Bool} {a : Act} {w : World}
    (hs : Region.noSelect ops = true) (hf : Region.free md ops listed i = true) (hr : (Region.ready md ops listed).contains i = true)
    (hl : (lastWaits md ops last i && !(listed.getD last true) && !(i == last)) = true) (hS : S w)
    (h : ∀ oi, ops[i]? = some oi → ∃ v, (∀ c a w, Q (.panic c) (a.put oi.dst v) w → Q (.panic c) a w) ∧ Region.wanted oi (yielded ops a.tmps) = true ∧ (∀ w, S w → (execOp a.eval oi).run P w = .ok (.value v) w) ∧
      wpAnyL P md ops Q S last fuel (listed.setIfInBounds i true) (a.put oi.dst v) w) : wpAnyL P md ops Q S last (fuel + 1) listed a w := by
  have hm : i ∈ Region.ready md ops listed := by simpa using hr
  obtain ⟨_, oi, hoi, _⟩ := mem_ready.1 hm
  obtain ⟨v, h1, h2, h3, h4⟩ := h oi hoi
  exact wpAnyL_take hoi hs hf hr hl h1 h2 h3 hS h4
theorem wpAnyL_takeW (i : Nat) {fuel : Nat} {listed : Array Bool} {a : Act} {w : World}
    (hs : Region.noSelect ops = true) (hf : Region.free md ops listed i = true) (hr : (Region.ready md ops listed).contains i = true)
    (hl : (!(i == last)) = true) (hS : S w)
    (h : ∀ oi, ops[i]? = some oi → ∃ v, (∀ c a w, Q (.panic c) (a.put oi.dst v) w → Q (.panic c) a w) ∧ Region.wanted oi (yielded ops a.tmps) = true ∧ (∀ w, (execOp a.eval oi).run P w = .ok (.value v) w) ∧
      wpAnyL P md ops Q S last fuel (listed.setIfInBounds i true) (a.put oi.dst v) w) : wpAnyL P md ops Q S last (fuel + 1) listed a w := by
  have hm : i ∈ Region.ready md ops listed := by simpa using hr
  obtain ⟨_, oi, hoi, _⟩ := mem_ready.1 hm
  obtain ⟨v, h1, h2, h3, h4⟩ := h oi hoi
  exact wpAnyL_takeAny hoi hs hf hr hl h1 h2 h3 hS h4

/-- Number i alone may come up. -/
theorem wpAnyL_one (i : Nat) {fuel : Nat} {listed : Array Bool} {a : Act} {w : World} (hr : Region.ready md ops listed = [i])
    (h : ∀ o, ops[i]? = some o → ∀ K' : Act → World → Prop, (∀ a w, (Till S last (listed.setIfInBounds i true) w ∧ wpAnyL P md ops Q S last fuel (listed.setIfInBounds i true) a w) → K' a w) → if Region.wanted o (yielded ops a.tmps) = true then Oper.wp P o a w K' Q else K' (a.put o.dst undef) w) :
    wpAnyL P md ops Q S last (fuel + 1) listed a w := by
  refine ⟨fun h0 => (by rw [hr] at h0; cases h0), fun j hj => ?_⟩
  rw [hr] at hj
  obtain rfl : j = i := by simpa using hj
  obtain ⟨_, o, ho, _⟩ := mem_ready.1 (by rw [hr]; simp : j ∈ Region.ready md ops listed)
  exact wpOp_step ho (h o ho)

theorem wpAnyL_done {listed : Array Bool} {a : Act} {w : World} (hr : Region.ready md ops listed = []) (h : Q .normal a w) : ∀ fuel, wpAnyL P md ops Q S last fuel listed a w
  | 0 => ⟨hr, h⟩
  | _ + 1 => ⟨fun _ => h, by rw [hr]; simp⟩

/-- The beginning. -/
theorem wp_region_last {id : Nat} {a : Act} {w : World} (S : World → Prop) (last : Nat) (hm : P.follows .mixedOrders = true)
    (h : wpAnyL P .any ops Q S last ops.size (Array.replicate ops.size false) a w.drew) : (Code.region id ops true).wp P Q a w :=
  wp_region_any hm (wpAny_of_last _ _ _ _ h)
end
end Go.Proofs.Qxb6609285aDoor
