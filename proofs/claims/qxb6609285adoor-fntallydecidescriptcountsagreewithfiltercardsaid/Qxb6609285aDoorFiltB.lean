import Derived.Test.Qxb6609285aDoorWalkJ
namespace Go.Proofs.Qxb6609285aDoor
open Go.RowKit Go.Proofs
set_option linter.unusedVariables false
set_option linter.unusedSimpArgs false

/-- The rules' cells, one behind the other. -/
def rulesL (rd c : Nat) (mb vb : Nat → Nat) (fw G mr : Nat → Bool) (O : Nat → Nat) : List Value := (List.range c).flatMap fun i => ruleG rd (fw i) (O i) (mb i) (vb i) (G i) (mr i)

theorem rulesL_succ (rd c : Nat) (mb vb : Nat → Nat) (fw G mr : Nat → Bool) (O : Nat → Nat) (m v : Nat) :
    rulesL rd c mb vb fw G mr O ++ ruleG rd (fw c) (O c) m v (G c) (mr c) = rulesL rd (c + 1) (fun j => if j = c then m else mb j) (fun j => if j = c then v else vb j) fw G mr O := by
  unfold rulesL
  rw [List.range_succ, List.flatMap_append]
  congr 1
  · rw [List.flatMap_def, List.flatMap_def]
    congr 1
    apply List.map_congr_left
    intro a ha
    have : a ≠ c := by have := List.mem_range.1 ha; omega
    simp [this]
  · simp

theorem rulesL_get (rd : Nat) (mb vb : Nat → Nat) (fw G mr : Nat → Bool) (O : Nat → Nat) : ∀ (c i j : Nat) (u : Value), i < c → (ruleG rd (fw i) (O i) (mb i) (vb i) (G i) (mr i))[j]? = some u → (rulesL rd c mb vb fw G mr O)[i * 18 + j]? = some u
  | 0, i, j, u, h, _ => absurd h (by omega)
  | c + 1, i, j, u, h, hu => by
    have hj : j < 18 := by
      have := (List.getElem?_eq_some_iff.1 hu).1
      simpa [ruleG] using this
    have hl : ∀ c, (rulesL rd c mb vb fw G mr O).length = c * 18 := by
      intro c
      induction c with
      | zero => rfl
      | succ c ih => unfold rulesL at *; rw [List.range_succ, List.flatMap_append, List.length_append, ih]; simp [ruleG]; omega
    have e : rulesL rd (c + 1) mb vb fw G mr O = rulesL rd c mb vb fw G mr O ++ ruleG rd (fw c) (O c) (mb c) (vb c) (G c) (mr c) := by
      unfold rulesL; rw [List.range_succ, List.flatMap_append]; simp
    rw [e]
    by_cases hc : i = c
    · subst hc
      rw [List.getElem?_append_right (by rw [hl]; omega), hl]
      rw [show i * 18 + j - i * 18 = j by omega]
      exact hu
    · rw [List.getElem?_append_left (by rw [hl]; omega)]
      exact rulesL_get rd mb vb fw G mr O c i j u (by omega) hu

/-- The filter that zzBuildFilter builds, with c rules in direction rd. -/
structure FB (w0 w : World) (rd c : Nat) (sa : Option Addr) (cap : Nat) (mb vb : Nat → Nat) (fw G mr : Nat → Bool) (O : Nat → Nat) (M V : Nat → Int) : Prop where
  xExt : Ext w0 w
  lt : w0.heap.size < w.heap.size
  f : w.cell? ⟨w0.heap.size, rd, none⟩ = some (.slice sa c cap)
  z : w.frozen? ⟨w0.heap.size, rd, none⟩ = false
  g : w.cell? ⟨w0.heap.size, 1 - rd, none⟩ = some (.slice none 0 0)
  own : w.ownsRow (w0.heap.size + 1) 63 18 (.slice sa c cap) c (rulesL rd c mb vb fw G mr O)
  hmk : ∀ j, j < c → w.heap[mb j]? = some (.cells #[.int .u8 (M j)] 5 (0, 0))
  hvl : ∀ j, j < c → w.heap[vb j]? = some (.cells #[.int .u8 (V j)] 5 (0, 0))

theorem Ext.heap {w w' : World} (h : Ext w w') {b : Nat} {o : Obj} (hb : w.heap[b]? = some o) : w'.heap[b]? = some o :=
  (h.block b (Array.getElem?_eq_some_iff.1 hb).1).trans hb

section
variable {w0 w w' : World} {rd c cap : Nat} {sa : Option Addr} {mb vb : Nat → Nat} {fw G mr : Nat → Bool} {O : Nat → Nat} {M V : Nat → Int}
theorem FB.ext (h : FB w0 w rd c sa cap mb vb fw G mr O M V) (k : Ext w w') : FB w0 w' rd c sa cap mb vb fw G mr O M V :=
  ⟨h.xExt.trans k, Nat.lt_of_lt_of_le h.lt k.size, k.cell h.f, k.frozen h.f h.z, k.cell h.g, k.owns h.own, fun j hj => k.heap (h.hmk j hj), fun j hj => k.heap (h.hvl j hj)⟩

theorem FB.start (w0 : World) (rd : Nat) (hrd : rd < 2) (mb vb : Nat → Nat) (fw G mr : Nat → Bool) (O : Nat → Nat) (M V : Nat → Int) : FB w0 (w0.alloc (.cells #[.slice none 0 0, .slice none 0 0] 53)) rd 0 none 0 mb vb fw G mr O M V := by
  refine ⟨(Ext.refl w0).alloc _, by simp, ?_, ?_, ?_, World.ownsRow_nil _ _ _ _, fun j hj => absurd hj (by omega), fun j hj => absurd hj (by omega)⟩
  all_goals rcases (show rd = 0 ∨ rd = 1 by omega) with rfl | rfl <;> simp [go_sem]

theorem FB.row_type (h : FB w0 w rd c sa cap mb vb fw G mr O M V) {b : Nat} {cs : Array Value} (hb : w.heap[b]? = some (.cells cs 5 (0, 0))) : some b ≠ (Value.slice sa c cap).ownBlock := by
  intro e
  rcases h.own.2 with ⟨hv, _⟩ | ⟨g, cp, cur, hv, _, hg, _⟩
  · rw [hv] at e; simp [Value.ownBlock] at e
  · rw [hv] at e
    simp [Value.ownBlock] at e
    subst e
    rw [hb] at hg
    simp at hg

theorem FB.add (h : FB w0 w rd c sa cap mb vb fw G mr O M V) (hrd : rd < 2) {mbk vbk g cap' : Nat} (hm : w.heap[mbk]? = some (.cells #[.int .u8 (M c)] 5 (0, 0))) (hv : w.heap[vbk]? = some (.cells #[.int .u8 (V c)] 5 (0, 0)))
    (ho : w'.ownsRow (w0.heap.size + 1) 63 18 (.slice (some ⟨g, 0, none⟩) (c + 1) cap') (c + 1) (rulesL rd c mb vb fw G mr O ++ ruleG rd (fw c) (O c) mbk vbk (G c) (mr c)))
    (hg : (w.setCell ⟨w0.heap.size, rd, none⟩ (.slice (some ⟨g, 0, none⟩) (c + 1) cap')).grownBy w' (Value.slice sa c cap).ownBlock) :
    FB w0 w' rd (c + 1) (some ⟨g, 0, none⟩) cap' (fun j => if j = c then mbk else mb j) (fun j => if j = c then vbk else vb j) fw G mr O M V := by
  have hN : some w0.heap.size ≠ (Value.slice sa c cap).ownBlock := fun e => by have := (h.own.lt _ e.symm).1; omega
  have hs : (w.setCell ⟨w0.heap.size, rd, none⟩ (.slice (some ⟨g, 0, none⟩) (c + 1) cap')).heap.size = w.heap.size := by simp [World.setCell]
  have blk : ∀ b, b < w.heap.size → b ≠ w0.heap.size → some b ≠ (Value.slice sa c cap).ownBlock → w'.heap[b]? = w.heap[b]? := fun b hb hne hr => by
    rw [hg.block b (by rw [hs]; exact hb) hr]
    exact Below.heap_setCell _ _ _ _ hne
  have fblk : w'.heap[w0.heap.size]? = (w.setCell ⟨w0.heap.size, rd, none⟩ (.slice (some ⟨g, 0, none⟩) (c + 1) cap')).heap[w0.heap.size]? := hg.block _ (by rw [hs]; exact h.lt) hN
  have keep : ∀ (b : Nat) (x : Int), w.heap[b]? = some (Obj.cells #[.int .u8 x] 5 (0, 0)) → w'.heap[b]? = some (Obj.cells #[.int .u8 x] 5 (0, 0)) := fun b x hb => by
    rw [blk b (Array.getElem?_eq_some_iff.1 hb).1 ?_ (h.row_type hb)]
    · exact hb
    · intro e
      subst e
      have h1 := h.f
      have h2 := h.g
      simp only [World.cell?, hb] at h1 h2
      rcases (show rd = 0 ∨ rd = 1 by omega) with rfl | rfl <;> simp at h1 h2
  refine ⟨⟨hg.os.trans h.xExt.os, hg.tape.trans h.xExt.tape, hg.output.trans h.xExt.output, Nat.le_trans h.xExt.size (by have := hg.size; rw [hs] at this; exact this), fun k hk => ?_⟩, ?_, ?_, ?_, ?_, ?_, ?_, ?_⟩
  · rw [blk k (Nat.lt_of_lt_of_le hk h.xExt.size) (by omega) (fun e => by have := (h.own.lt _ e.symm).1; omega)]
    exact h.xExt.block k hk
  · have := hg.size; rw [hs] at this; have := h.lt; omega
  · rw [World.cell?_of_block (a := ⟨w0.heap.size, rd, none⟩) fblk]; exact cell_same h.f
  · rw [World.frozen?_of_block (a := ⟨w0.heap.size, rd, none⟩) fblk, World.frozen?_setCell]; exact h.z
  · rw [World.cell?_of_block (a := ⟨w0.heap.size, 1 - rd, none⟩) fblk, cell_other (a := ⟨w0.heap.size, rd, none⟩) (b := ⟨w0.heap.size, 1 - rd, none⟩) (by intro e; injection e with _ e2 _; omega)]; exact h.g
  · rw [← rulesL_succ]; exact ho
  · intro j hj
    by_cases e : j = c
    · subst e; simp only [if_pos]; exact keep _ _ hm
    · simp only [if_neg e]; exact keep _ _ (h.hmk j (by omega))
  · intro j hj
    by_cases e : j = c
    · subst e; simp only [if_pos]; exact keep _ _ hv
    · simp only [if_neg e]; exact keep _ _ (h.hvl j (by omega))
end
end Go.Proofs.Qxb6609285aDoor
