/- Plain mathematics for the filter: chains of rules, the first holding head. Nothing of Go. -/
namespace Go.Proofs.Qxb6609285aDoor

/-- Every rule from a on, below k, matches. -/
def allm (m : Nat → Bool) (a k : Nat) : Bool := (List.range' a (k - a)).all m

theorem allm_self (m : Nat → Bool) (a : Nat) : allm m a a = true := by simp [allm]
theorem allm_iff (m : Nat → Bool) (a k : Nat) : allm m a k = true ↔ ∀ j, a ≤ j → j < k → m j = true := by
  simp only [allm, List.all_eq_true, List.mem_range'_1]
  constructor
  · intro h j h1 h2; exact h j ⟨h1, by omega⟩
  · intro h j ⟨h1, h2⟩; exact h j h1 (by omega)
theorem allm_succ (m : Nat → Bool) (a k : Nat) (h : a ≤ k) : allm m a (k + 1) = (allm m a k && m k) := by
  rw [Bool.eq_iff_iff, Bool.and_eq_true, allm_iff, allm_iff]
  constructor
  · intro g; exact ⟨fun j h1 h2 => g j h1 (by omega), g k h (by omega)⟩
  · intro ⟨g1, g2⟩ j h1 h2
    by_cases e : j = k
    · subst e; exact g2
    · exact g1 j h1 (by omega)

/-- Rule i heads a chain: it is the first, or the rule ahead of it bears no More. -/
def Head (more : Nat → Bool) (i : Nat) : Prop := i = 0 ∨ more (i - 1) = false
/-- The chain from i on: all its members match. -/
def Holds (n : Nat) (m more : Nat → Bool) (i : Nat) : Prop := ∀ j, i ≤ j → j < n → (∀ l, i ≤ l → l < j → more l = true) → m j = true
/-- What the filter decides. -/
def IsDec (n : Nat) (m more fwd : Nat → Bool) (b : Bool) (r : Nat) : Prop :=
  (∃ i, i < n ∧ Head more i ∧ Holds n m more i ∧ (∀ j, j < i → Head more j → ¬ Holds n m more j) ∧ b = fwd i ∧ r = i + 1) ∨
  ((∀ i, i < n → Head more i → ¬ Holds n m more i) ∧ b = decide (n = 0) ∧ r = 0)

theorem IsDec.le {n : Nat} {m more fwd : Nat → Bool} {b : Bool} {r : Nat} (h : IsDec n m more fwd b r) : r ≤ n := by
  rcases h with ⟨i, h, _, _, _, _, rfl⟩ | ⟨_, _, rfl⟩ <;> omega

theorem IsDec.unique {n : Nat} {m more fwd : Nat → Bool} {b b' : Bool} {r r' : Nat} (h : IsDec n m more fwd b r) (h' : IsDec n m more fwd b' r') : b = b' ∧ r = r' := by
  rcases h with ⟨i, hi, hh, ho, hn, rfl, rfl⟩ | ⟨hn, rfl, rfl⟩ <;> rcases h' with ⟨i', hi', hh', ho', hn', rfl, rfl⟩ | ⟨hn', rfl, rfl⟩
  · have : i = i' := by
      rcases Nat.lt_trichotomy i i' with g | g | g
      · exact absurd ho (hn' i g hh)
      · exact g
      · exact absurd ho' (hn i' g hh')
    subst this; exact ⟨rfl, rfl⟩
  · exact absurd ho (hn' i hi hh)
  · exact absurd ho' (hn i' hi' hh')
  · exact ⟨rfl, rfl⟩

/-- A chain that ends at k (behind its last member): it holds just if all from a to k match. -/
theorem holds_chain {n : Nat} {m more : Nat → Bool} {a k : Nat} (hk : k < n) (hm : ∀ l, a ≤ l → l < k → more l = true) (hak : a ≤ k) (hend : more k = false ∨ k + 1 = n) :
    Holds n m more a ↔ allm m a (k + 1) = true := by
  rw [allm_iff]
  constructor
  · intro h j h1 h2; exact h j h1 (by omega) (fun l l1 l2 => hm l l1 (by omega))
  · intro h j h1 h2 h3
    refine h j h1 ?_
    rcases hend with he | he
    · rcases Nat.lt_or_ge k j with g | g
      · have := h3 k hak g; rw [he] at this; cases this
      · omega
    · omega
/-- Inside a chain no rule is a head. -/
theorem not_head {more : Nat → Bool} {a k : Nat} (hm : ∀ l, a ≤ l → l < k → more l = true) {j : Nat} (h1 : a < j) (h2 : j ≤ k) : ¬ Head more j := by
  rintro (h | h)
  · omega
  · have := hm (j - 1) (by omega) (by omega); rw [h] at this; cases this

/-- A chain that does not hold: the next head. -/
theorem chain_next {n : Nat} {m more : Nat → Bool} {k q : Nat} (hq : q < n) (hkq : k ≤ q) (hm : ∀ l, k ≤ l → l < q → more l = true) (hend : more q = false ∨ q + 1 = n)
    (hnone : ∀ j, j < k → Head more j → ¬ Holds n m more j) (hf : allm m k (q + 1) = false) :
    (q + 1 = n ∨ Head more (q + 1)) ∧ ∀ j, j < q + 1 → Head more j → ¬ Holds n m more j := by
  refine ⟨hend.elim (fun h => .inr (.inr (by simpa using h))) .inl, fun j hj hh ho => ?_⟩
  rcases Nat.lt_trichotomy j k with g | g | g
  · exact hnone j g hh ho
  · subst g
    rw [holds_chain hq hm hkq hend, hf] at ho
    cases ho
  · exact not_head hm g (by omega) hh
/-- A chain that holds decides. -/
theorem chain_hit {n : Nat} {m more fwd : Nat → Bool} {k q : Nat} (hq : q < n) (hkq : k ≤ q) (hm : ∀ l, k ≤ l → l < q → more l = true) (hend : more q = false ∨ q + 1 = n)
    (hnone : ∀ j, j < k → Head more j → ¬ Holds n m more j) (hh : k = n ∨ Head more k) (hf : allm m k (q + 1) = true) : IsDec n m more fwd (fwd k) (k + 1) :=
  .inl ⟨k, by omega, hh.elim (fun h => by omega) id, (holds_chain hq hm hkq hend).2 hf, hnone, rfl, rfl⟩
theorem dec_none {n : Nat} {m more fwd : Nat → Bool} {k : Nat} (hk : k = n) (hnone : ∀ j, j < k → Head more j → ¬ Holds n m more j) : IsDec n m more fwd (decide (n = 0)) 0 :=
  .inr ⟨fun i hi => hnone i (by omega), rfl, rfl⟩
end Go.Proofs.Qxb6609285aDoor
