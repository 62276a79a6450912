/- Plain mathematics of the law's own model: heads and marks, laid round by round. -/
import Derived.Test.Qxb6609285aDoorPlain
namespace Go.Proofs.Qxb6609285aDoor

/-- The head of rule i's chain. -/
def hd (more : Nat → Bool) : Nat → Nat
  | 0 => 0
  | i + 1 => if more i then hd more i else i + 1

/-- Does rule i head a chain? -/
def isH (more : Nat → Bool) : Nat → Bool
  | 0 => true
  | i + 1 => !more i

theorem isH_iff (more : Nat → Bool) (i : Nat) : isH more i = true ↔ Head more i := by
  cases i with
  | zero => simp [isH, Head]
  | succ i => simp [isH, Head]

theorem hd_le (more : Nat → Bool) : ∀ i, hd more i ≤ i
  | 0 => Nat.le_refl _
  | i + 1 => by
    unfold hd
    split
    · exact Nat.le_succ_of_le (hd_le more i)
    · exact Nat.le_refl _

theorem hd_self (more : Nat → Bool) (i : Nat) : hd more i = i ↔ Head more i := by
  cases i with
  | zero => simp [hd, Head]
  | succ i =>
    simp only [hd, Head, Nat.succ_ne_zero, false_or, Nat.add_one_sub_one]
    cases h : more i
    · simp
    · have := hd_le more i
      simp
      omega

/-- From the head on, up to the rule, every rule ties on. -/
theorem hd_chain (more : Nat → Bool) : ∀ i l, hd more i ≤ l → l < i → more l = true
  | 0, l, _, h => absurd h (by omega)
  | i + 1, l, h1, h2 => by
    unfold hd at h1
    split at h1
    · by_cases e : l = i
      · subst e; assumption
      · exact hd_chain more i l h1 (by omega)
    · omega

/-- A head's chain reaches up to i just if i's head is it. -/
theorem hd_of_chain (more : Nat → Bool) {j : Nat} (hj : Head more j) : ∀ i, j ≤ i → (∀ l, j ≤ l → l < i → more l = true) → hd more i = j
  | 0, h1, _ => by
    obtain rfl : j = 0 := by omega
    rfl
  | i + 1, h1, h2 => by
    by_cases e : j = i + 1
    · subst e; exact (hd_self more _).2 hj
    · have hm := h2 i (by omega) (by omega)
      rw [hd, if_pos hm]
      exact hd_of_chain more hj i (by omega) (fun l l1 l2 => h2 l l1 (by omega))

/-- What the marks hold behind i rounds. -/
def okv (al more : Nat → Bool) : Nat → Nat → Bool
  | 0, _ => false
  | i + 1, j => if al i = false ∧ j = hd more i then false else if isH more i = true ∧ j = i then true else okv al more i j

theorem okv_iff (al more : Nat → Bool) {j : Nat} (hj : Head more j) : ∀ i, j < i → (okv al more i j = true ↔ ∀ l, j ≤ l → l < i → (∀ k, j ≤ k → k < l → more k = true) → al l = true)
  | 0, h => absurd h (by omega)
  | i + 1, h => by
    unfold okv
    by_cases e : j = i
    · subst e
      have hh := (hd_self more j).2 hj
      have hi := (isH_iff more j).2 hj
      rw [hh, hi]
      cases ha : al j
      · simp
        exact ⟨j, by omega, by omega, fun k h1 h2 => absurd h1 (by omega), ha⟩
      · simp
        intro l h1 h2 _
        obtain rfl : l = j := by omega
        exact ha
    · have ih := okv_iff al more hj i (by omega)
      by_cases c : hd more i = j
      · cases ha : al i
        · rw [if_pos ⟨rfl, c.symm⟩]
          simp
          refine ⟨i, by omega, by omega, fun k h1 h2 => hd_chain more i k (by rw [c]; exact h1) h2, ha⟩
        · rw [if_neg (by simp), if_neg (by intro h; exact e h.2), ih]
          constructor
          · intro g l h1 h2 h3
            by_cases el : l = i
            · subst el; exact ha
            · exact g l h1 (by omega) h3
          · intro g l h1 h2 h3; exact g l h1 (by omega) h3
      · rw [if_neg (by intro h; exact c h.2.symm), if_neg (by intro h; exact e h.2), ih]
        constructor
        · intro g l h1 h2 h3
          by_cases el : l = i
          · subst el; exact absurd (hd_of_chain more hj l h1 h3) c
          · exact g l h1 (by omega) h3
        · intro g l h1 h2 h3; exact g l h1 (by omega) h3

theorem okv_holds (al more : Nat → Bool) {j n : Nat} (hj : Head more j) (h : j < n) : okv al more n j = true ↔ Holds n al more j := by
  rw [okv_iff al more hj n h]; rfl

/-- The first head whose mark stands decides. -/
theorem model_hit {n : Nat} {al more fwd : Nat → Bool} {i : Nat} (hi : i < n) (hh : hd more i = i) (ho : okv al more n i = true) (hn : ∀ j, j < i → hd more j = j → okv al more n j = false) :
    IsDec n al more fwd (fwd i) (i + 1) := by
  have h1 := (hd_self more i).1 hh
  refine .inl ⟨i, hi, h1, (okv_holds al more h1 hi).1 ho, fun j hj hhj hoj => ?_, rfl, rfl⟩
  have := hn j hj ((hd_self more j).2 hhj)
  rw [(okv_holds al more hhj (by omega)).2 hoj] at this
  cases this
theorem model_none {n : Nat} {al more fwd : Nat → Bool} (h0 : 0 < n) (hn : ∀ j, j < n → hd more j = j → okv al more n j = false) :
    IsDec n al more fwd false 0 := by
  refine .inr ⟨fun j hj hhj hoj => ?_, by simp; omega, rfl⟩
  have := hn j hj ((hd_self more j).2 hhj)
  rw [(okv_holds al more hhj hj).2 hoj] at this
  cases this
end Go.Proofs.Qxb6609285aDoor
